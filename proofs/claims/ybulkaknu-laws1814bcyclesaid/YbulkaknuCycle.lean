import Derived.Test.YbulkaknuTab
import Derived.Test.YbulkaknuProg
import Derived.Deep.LoopGhost
import Derived.RegionTactic
import Derived.BigRegion
import Derived.Maps.AppendAt
namespace Go.Proofs.Ybulkaknu
open Go.RowKit

theorem Yba.info3' : (Yba.prog.info? 3).map (fun i => (i.zero, i.size, i.bytes)) = some (some (.int .i64 0), 1, 8) := by kernel_rfl
theorem Yba.info4 : (Yba.prog.info? 4).map (fun i => (i.zero, i.size, i.bytes)) = some (some (.bool false), 1, 1) := by kernel_rfl

/-- what the exchange has made of a row behind k rounds. -/
def swapped (n k : Nat) (v : Nat → Value) : Nat → Value := fun t => if t < k ∨ n ≤ t + k then v (n - 1 - t) else v t

theorem swapped_zero (n : Nat) (v : Nat → Value) (t : Nat) (ht : t < n) : swapped n 0 v t = v t := by
  unfold swapped; rw [if_neg (by omega)]

theorem swapped_end (n k : Nat) (v : Nat → Value) (h : n ≤ 2 * k + 1) (t : Nat) (ht : t < n) : swapped n k v t = v (n - 1 - t) := by
  unfold swapped
  by_cases e : t < k ∨ n ≤ t + k
  · rw [if_pos e]
  · rw [if_neg e, show n - 1 - t = t from by omega]

theorem swapped_step {w : World} {b n k m : Nat} {v : Nat → Value} (hm : m = n - 1 - k) (hk : k < m) (h : Tab w b n (swapped n k v)) :
    Tab ((w.setCell ⟨b, k, none⟩ (swapped n k v m)).setCell ⟨b, m, none⟩ (swapped n k v k)) b n (swapped n (k + 1) v) := by
  have e1 : swapped n k v k = v k := by unfold swapped; rw [if_neg (by omega)]
  have e2 : swapped n k v m = v m := by unfold swapped; rw [if_neg (by omega)]
  have e3 : swapped n (k + 1) v k = v m := by unfold swapped; rw [if_pos (by omega), hm]
  have e4 : swapped n (k + 1) v m = v k := by unfold swapped; rw [if_pos (by omega), show n - 1 - m = k from by omega]
  have s1 := h.set k (swapped n k v m) (v' := fun t => if t = k then v m else swapped n k v t) (by simp [e2]) (fun i hi => by simp [hi])
  refine s1.set m (swapped n k v k) (by rw [e4, e1]) (fun i hi => ?_)
  by_cases e : i = k
  · subst e; simp [e3]
  · simp only [if_neg e]
    unfold swapped
    by_cases e5 : i < k ∨ n ≤ i + k
    · rw [if_pos e5, if_pos (by omega)]
    · rw [if_neg e5, if_neg (by omega)]

set_option maxHeartbeats 1000000 in
theorem reverse_any (b n c : Nat) (f : Nat → Int) (w : World) (hn : n ≤ 1024) (hT : Tab w b n (fun i => .int .i64 (f i))) :
    Calls Yba.prog 8 #[.slice (some ⟨b, 0, none⟩) n c] w fun e w' => e = .returned (.tuple #[]) ∧ Tab w' b n (fun i => .int .i64 (f (n - 1 - i))) ∧ ∀ B, B ≤ b → Below B w w' := by
  have HT : Hid (Tab w b n (fun i => .int .i64 (f i))) := hT
  clear hT
  go_enter Yba.func8, Yba.ntmps8
  go_wp2
  go_loopg [2, 3] n (fun g s2 s3 wr => ∃ (k : Nat) (jz : Int), s2 = .int .i64 k ∧ s3 = .int .i64 jz ∧ Hid (jz = (n : Int) - 1 - k) ∧ Hid (g = n - k) ∧ Hid (k ≤ n) ∧ Tab wr b n (swapped n k (fun i => .int .i64 (f i))) ∧ Hid (∀ B, B ≤ b → Below B w wr))
  case atStart => exact ⟨0, (n : Int) - 1, rfl, rfl, by show _ = _; omega, rfl, Nat.zero_le _, HT.out.congr (fun i hi => (swapped_zero n (fun i => .int .i64 (f i)) i hi).symm), fun B _ => Below.refl _ _⟩
  case round =>
    obtain ⟨k, jz, rfl, rfl, hjz, hg, hkn, hT, hB⟩ := hrel
    have hjz' := hjz.out
    by_cases hlt : (k : Int) < jz
    · obtain ⟨m, rfl⟩ : ∃ m : Nat, jz = m := ⟨jz.toNat, by omega⟩
      have hm : m = n - 1 - k := by omega
      have hkm : k < m := by omega
      have ck := hT.cell k (by omega)
      have cm := hT.cell m (by omega)
      have fk := hT.free k (by omega)
      have fm := hT.free m (by omega)
      have e1 : swapped n k (fun i => Value.int .i64 (f i)) k = .int .i64 (f k) := by unfold swapped; rw [if_neg (by omega)]
      have e2 : swapped n k (fun i => Value.int .i64 (f i)) m = .int .i64 (f m) := by unfold swapped; rw [if_neg (by omega)]
      rw [e1] at ck
      rw [e2] at cm
      have hS := swapped_step hm hkm hT
      rw [e1, e2] at hS
      have HS : Hid (Tab ((wr.setCell ⟨b, k, none⟩ (.int .i64 (f m))).setCell ⟨b, m, none⟩ (.int .i64 (f k))) b n (swapped n (k + 1) (fun i => .int .i64 (f i)))) := hS
      have hmn : m < n := by omega
      have hkn' : k < n := by omega
      have HM : Hid (m = n - 1 - k) := hm
      clear hS e1 e2 hT hjz' hjz hm
      go_wp2_with fail
      go_region
      all_goals
        go_wp2
        go_roundg (n - (k + 1))
        case measure => have := hg.out; omega
        case rel =>
          have hg' := hg.out
          have hkn2 := hkn.out
          have hm := HM.out
          exact ⟨k + 1, (m : Int) - 1, by go_num, rfl, by show _ = _; omega, rfl, by show _ ≤ _; omega, HS.out.drew, fun B hb => (((hB.out B hb).setCell hb _).setCell hb _).drew⟩
    · have hkn2 := hkn.out
      have hE : Tab wr b n (fun i => .int .i64 (f (n - 1 - i))) := hT.congr (fun i hi => swapped_end n k (fun i => .int .i64 (f i)) (by omega) i hi)
      clear hT
      go_wp2
      go_end0
      exact ⟨rfl, hE, hB.out⟩

/-- it says whether c lies on a cycle. -/
def SaysOn (f : Nat → Nat) (c : Nat) (e : Ending) : Prop := ∃ b : Bool, e = .returned (.bool b) ∧ (b = true ↔ Gr.OnC f c)

/-- 'zzs1814boncycle': does c lie on a cycle? -/
theorem onC_any (vb n c : Nat) (f : Nat → Nat) (w : World) (hn : n ≤ 1024) (hf : ∀ x, x < n → f x < n) (hc : c < n) (hv : Tab w vb n (fun i => .int .i64 (f i))) :
    Calls Yba.prog 7 #[.slice (some ⟨vb, 0, none⟩) n n, .int .i64 c] w fun e w' => SaysOn f c e ∧ w' = w := by
  have HF : Hid (∀ x, x < n → f x < n) := hf
  have HV : Hid (Tab w vb n (fun i => .int .i64 (f i))) := hv
  clear hf hv
  have hc0 := HV.out.cell c hc
  go_enter Yba.func7, Yba.ntmps7
  go_wp2
  go_loop [5, 6] (fun y i => ∃ k : Nat, k ≤ n ∧ i = .int .i64 k ∧ y = .int .i64 (Gr.it f (k + 1) c : Nat) ∧ Hid (∀ j, j < k → Gr.it f (j + 1) c ≠ c)) (fun _ i => n - (intOf i).toNat)
  case atStart => exact ⟨0, Nat.zero_le _, rfl, rfl, fun j hj => by omega⟩
  case round =>
    obtain ⟨k, hk, rfl, rfl, hno⟩ := hrel
    have hy := Gr.it_lt HF.out (k + 1) hc
    have hcy := HV.out.cell _ hy
    by_cases hlt : k < n
    · by_cases he : Gr.it f (k + 1) c = c
      · have ht : ((Gr.it f (k + 1) c : Int) == (c : Int)) = true := by simp [he]
        have HE : Hid (Gr.it f (k + 1) c = c) := he
        clear he
        go_wp2
        go_ret
        exact ⟨⟨true, rfl, ⟨fun _ => ⟨k + 1, by omega, HE.out⟩, fun _ => rfl⟩⟩, rfl⟩
      · have ht : ((Gr.it f (k + 1) c : Int) == (c : Int)) = false := by simp; omega
        have HE : Hid (Gr.it f (k + 1) c ≠ c) := he
        clear he
        go_wp2
        go_round
        case rel => exact ⟨k + 1, by omega, by go_num, rfl, fun j hj => by
          by_cases e : j = k
          · subst e; exact HE.out
          · exact hno.out j (by omega)⟩
        case measure => simp [intOf]; omega
    · have hkn : k = n := by omega
      subst hkn
      go_wp2
      go_ret
      refine ⟨⟨false, rfl, ⟨fun h => (by cases h), fun h => ?_⟩⟩, rfl⟩
      obtain ⟨i, hi, he⟩ := (Gr.onC_by HF.out hc).1 h
      exact absurd he (hno.out i hi)

/-- a row of nodes out of what is owned. -/
theorem nodes_of_owns {w : World} {base n : Nat} {v : Value} {xs : List Nat} (hn : 0 < n) (h : w.ownsRow base 3 1 v n (xs.map fun x : Nat => Value.int .i64 (x : Int))) :
    ∃ g cap, v = .slice (some ⟨g, 0, none⟩) n cap ∧ base ≤ g ∧ g < w.heap.size ∧ n ≤ cap ∧ Tab w g n (fun i => .int .i64 ((xs.getD i 0 : Nat) : Int)) := by
  have h' := h
  obtain ⟨hl, h0 | ⟨g, cap, cur, rfl, hb, hh, hnc, _, _, _⟩⟩ := h
  · omega
  · refine ⟨g, cap, rfl, hb, owns_lt h', hnc, ?_, ?_⟩
    · intro i hi
      rw [h'.cellAt i (by omega)]
      simp at hl
      simp [List.getElem?_map, List.getElem?_eq_getElem (show i < xs.length from by omega)]
    · intro i _
      exact h'.frozenAt i

theorem own_ge {w : World} {base e size n : Nat} {v : Value} {xs : List Value} (h : w.ownsRow base e size v n xs) : ∀ k, v.ownBlock = some k → base ≤ k := by
  intro k hk
  obtain ⟨_, h | ⟨g, cap, cur, rfl, hb, _⟩⟩ := h
  · rw [h.1] at hk; cases hk
  · simp only [Value.ownBlock, Option.some.injEq] at hk
    subst hk
    exact hb

set_option maxHeartbeats 1000000 in
theorem cycleAt_any (vb n z : Nat) (f : Nat → Nat) (w : World) (hn : n ≤ 1024) (hf : ∀ x, x < n → f x < n) (hz : z < n) (hvb : vb < w.heap.size) (hv : Tab w vb n (fun i => .int .i64 (f i))) :
    Calls Yba.prog 6 #[.slice (some ⟨vb, 0, none⟩) n n, .int .i64 z] w fun e w' => ∃ c m g cap s, e = .returned (.slice (some ⟨g, 0, none⟩) m cap) ∧ Gr.First f n z s c ∧ Gr.Round f c m ∧ w.heap.size ≤ g ∧ g < w'.heap.size ∧
      Tab w' g m (fun i => .int .i64 (Gr.cyc f c m i : Nat)) ∧ Below w.heap.size w w' := by
  obtain ⟨i0, hi, hz0, hz1, hz2⟩ := info_parts Yba.info4
  obtain ⟨i3, hi3, hz30, hz31, hz32⟩ := info_parts Yba.info3'
  have HF : Hid (∀ x, x < n → f x < n) := hf
  have HV : Hid (Tab w vb n (fun i => .int .i64 (f i))) := hv
  clear hf hv
  go_enter Yba.func6, Yba.ntmps6
  go_wp2_with (at_make; refine wpList_make_full _ rfl _ _ 29 rfl w.heap.size 4 i0 (.bool false) 1 Yba.underlying29 hi hz0 hz1 _ _ _ _ n rfl rfl rfl rfl (by rw [hz2]; omega) (by unfold maxLen; omega) (Nat.le_refl _) ?_; intro w1 hown hgrow)
  have hb1 : Below w.heap.size w w1 := (Below.refl _ _).grown hgrow (Nat.le_refl _) (fun k hk => by cases hk)
  have hT1 : Tab w1 w.heap.size n (fun i => .bool ((fun _ => false : Nat → Bool) i)) := Tab.made hown
  clear hown hgrow hi hz0 hz1 hz2
  go_loopg [1] n (fun g zz wr => ∃ k sn, zz = .int .i64 (Gr.it f k z : Nat) ∧ Hid (g = n - k) ∧ Gr.Seen f n z k sn ∧ Tab wr w.heap.size n (fun i => .bool (sn i)) ∧ Below w.heap.size w wr)
  case atStart => exact ⟨0, _, rfl, rfl, Gr.seen_start, hT1, hb1⟩
  case round =>
    clear hT1 hb1
    obtain ⟨k, sn, rfl, hg, hS, hT, hB⟩ := hrel
    have hy := Gr.it_lt HF.out k hz
    have hcy : wr.cell? ⟨vb, Gr.it f k z, none⟩ = some (.int .i64 (f (Gr.it f k z) : Nat)) := (HV.out.below hB hvb).cell _ hy
    have hcs := hT.cell _ hy
    have hfs := hT.free _ hy
    have HT : Hid (Tab wr w.heap.size n (fun i => .bool (sn i))) := hT
    have HS : Hid (Gr.Seen f n z k sn) := hS
    clear hT hS
    by_cases hsn : sn (Gr.it f k z) = false
    · have HSN : Hid (sn (Gr.it f k z) = false) := hsn
      rw [hsn] at hcs
      clear hsn
      go_wp2
      go_roundg (n - (k + 1))
      case measure =>
        have := hg.out
        have := Gr.seen_le HF.out hz (Gr.seen_step HF.out hz HS.out HSN.out)
        omega
      case rel =>
        exact ⟨k + 1, _, rfl, rfl, Gr.seen_step HF.out hz HS.out HSN.out, HT.out.set _ _ (by simp [Gr.updB]) (fun i hi => by simp [Gr.updB, hi]), hB.setCell (Nat.le_refl _) _⟩
    · have hsn' : sn (Gr.it f k z) = true := by simpa using hsn
      rw [hsn'] at hcs
      obtain ⟨s, hfirst⟩ := Gr.seen_end HF.out hz HS.out hsn'
      clear hsn hsn' HT HS hg hfs
      obtain ⟨c, hc⟩ : ∃ c, c = Gr.it f k z := ⟨_, rfl⟩
      rw [← hc] at hy hcy hcs hfirst ⊢
      clear hc
      have HFI : Hid (Gr.First f n z s c) := hfirst
      obtain ⟨p0, hp01, hp0⟩ := hfirst.on
      obtain ⟨p, hp1, hpn, hp⟩ := Gr.back_by HF.out hy hp01 hp0
      clear hp0 hp01
      have HP : Hid (Gr.it f p c = c) := hp
      clear hp hfirst
      have hvw : vb < wr.heap.size := Nat.lt_of_lt_of_le hvb hB.size
      have hBs := hB.size
      go_wp2
      go_loopg [6, 7] (p - 1) (fun g v y w2 => ∃ j, 1 ≤ j ∧ j ≤ p ∧ Hid (g = p - j) ∧ y = .int .i64 (Gr.it f j c : Nat) ∧ w2.ownsRow w.heap.size 3 1 v j ((Gr.path f c j).map fun x : Nat => .int .i64 (x : Int)) ∧ Below w.heap.size w w2 ∧ Hid (∀ i, 1 ≤ i → i < j → Gr.it f i c ≠ c))
      case atStart =>
        refine ⟨1, Nat.le_refl _, hp1, rfl, rfl, ?_, hB.alloc hBs _, fun i h1 h2 => by omega⟩
        rw [Gr.path_one]
        exact World.ownsRow_lit wr #[.int .i64 c] 1 hBs (by unfold maxLen; omega) rfl
      case round =>
        clear hcy hcs hvw
        obtain ⟨j, hj1, hjp, hg, rfl, hown, hB2, hno⟩ := hrel
        have hyj := Gr.it_lt HF.out j hy
        have hcv : wr.cell? ⟨vb, Gr.it f j c, none⟩ = some (.int .i64 (f (Gr.it f j c) : Nat)) := (HV.out.below hB2 hvb).cell _ hyj
        have hvw : vb < wr.heap.size := Nat.lt_of_lt_of_le hvb hB2.size
        have hs2 := hB2.size
        by_cases hjc : Gr.it f j c = c
        · have ht : ((Gr.it f j c : Int) != (c : Int)) = false := by simp [hjc]
          have hR : Gr.Round f c j := ⟨hj1, hjc, hno.out⟩
          obtain ⟨g, cap, rfl, hg1, hg2, hg3, hT⟩ := nodes_of_owns (by omega) hown
          clear hjc hown hcv
          go_wp2_with fail
          refine (reverse_any g j cap (fun i => ((Gr.path f c j).getD i 0 : Nat)) wr (by omega) hT).mono ?_
          rintro e w3 ⟨rfl, hT3, hB3⟩
          have hTc : Tab w3 g j (fun i => .int .i64 (Gr.cyc f c j i : Nat)) := hT3.congr (fun i hi => by
            have := Gr.path_reverse f c j i hi
            rw [List.getElem?_reverse (by rw [Gr.path_length]; exact hi), Gr.path_length] at this
            simp [List.getD, this])
          have hBB := hB2.trans (hB3 w.heap.size hg1)
          have hgs : g < w3.heap.size := Nat.lt_of_lt_of_le hg2 (hB3 0 (Nat.zero_le _)).size
          clear hT hT3 hB3
          go_wp2
          go_ret
          exact ⟨c, j, g, cap, s, rfl, HFI.out, hR, hg1, hgs, hTc, hBB⟩
        · have ht : ((Gr.it f j c : Int) != (c : Int)) = true := by simp; omega
          have hjp' : j < p := by
            by_cases e : j = p
            · subst e; exact absurd HP.out hjc
            · omega
          have HJ : Hid (Gr.it f j c ≠ c) := hjc
          have HOWN : Hid (wr.ownsRow w.heap.size 3 1 u6 j ((Gr.path f c j).map fun x : Nat => .int .i64 (x : Int))) := hown
          clear hjc hown
          go_wp2_with (at_builtin; refine wpList_append_own _ rfl _ _ 22 rfl w.heap.size 3 i3 (.int .i64 0) 1 8 Yba.underlying22 hi3 hz30 hz31 hz32 rfl (by decide) _ _ _ rfl (HOWN.out.alloc _) ⟨wr.heap.size, 0, none⟩ 1 1 [.int .i64 (Gr.it f j c : Nat)] rfl rfl (cell_one_new _ _ _) (by simp [Value.oneCell']) (by unfold maxLen; omega) (by omega) (by simp; omega) ?_; intro v' w3 hown' hgrow' hnil'; have hB3 : Below w.heap.size w w3 := (hB2.alloc hs2 _).grown hgrow' (by simp; omega) (own_ge HOWN.out); have hcv3 : w3.cell? ⟨vb, Gr.it f j c, none⟩ = some (.int .i64 (f (Gr.it f j c) : Nat)) := (HV.out.below hB3 hvb).cell _ hyj)
          go_roundg (p - (j + 1))
          case measure => have := hg.out; omega
          case rel =>
            refine ⟨j + 1, by omega, by omega, rfl, rfl, ?_, hB3, fun i h1 h2 => ?_⟩
            · rw [Gr.path_succ, List.map_append]
              exact hown'
            · by_cases e : i = j
              · subst e; exact HJ.out
              · exact hno.out i h1 (by omega)
end Go.Proofs.Ybulkaknu
