import Derived.Test.YbulkaknuLoop
import Derived.Deep.QuietTactic
import Derived.BigQuiet
namespace Go.Proofs.Ybulkaknu
open Go.RowKit

theorem Yba.info3 : (Yba.prog.info? 3).map (fun i => (i.zero, i.size, i.bytes)) = some (some (.int .i64 0), 1, 8) := by kernel_rfl

/-- a table of nodes. -/
abbrev Nodes (w : World) (b n : Nat) (f : Nat → Nat) : Prop := Tab w b n (fun y => .int .i64 (f y))

set_option maxHeartbeats 2000000 in
theorem lawA_any (a0 : Option Addr) (n c0 : Nat) (z : Nat → Int) (w : World) 
    (hrow : Hid (0 < n → ∃ b off, a0 = some ⟨b, off, none⟩ ∧ b < w.heap.size ∧ ∀ i, i < n → w.cell? ⟨b, off + i, none⟩ = some (.int .i64 (z i)))) :
    Calls Yba.prog 3 #[.slice a0 n c0] w fun e w' => e = .returned (.bool true) ∧ Below w.heap.size w w' := by
  obtain ⟨i0, hi, hz0, hz1, hz2⟩ := info_parts Yba.info3
  by_cases hn : 1024 < n
  · go_enter Yba.func3, Yba.ntmps3
    go_wp2
    go_ret
    exact ⟨rfl, Below.refl _ _⟩
  · have hn' : n ≤ 1024 := by omega
    clear hn
    obtain ⟨f, hf, hfz⟩ := via_ex n z hn'
    have HF : Hid (∀ x, x < n → f x < n) := hf
    have HFZ : Hid (∀ k, k < n → wrap64 ((IntKind.u64.wrap (z k)).tmod (n : Int)) = (f k : Int)) := hfz
    clear hf hfz
    go_enter Yba.func3, Yba.ntmps3
    go_wp2_with (at_make; refine wpList_make_full _ rfl _ _ 22 rfl w.heap.size 3 i0 (.int .i64 0) 1 Yba.underlying22 hi hz0 hz1 _ _ _ _ n rfl rfl rfl rfl (by rw [hz2]; omega) (by unfold maxLen; omega) (Nat.le_refl _) ?_; intro w1 hown hgrow)
    have hb1 : Below w.heap.size w w1 := (Below.refl _ _).grown hgrow (Nat.le_refl _) (fun k hk => by cases hk)
    have hs1 : w.heap.size < w1.heap.size := owns_lt hown
    have hT1 : Tab w1 w.heap.size n (fun i => .int .i64 (if i < 0 then (f i : Int) else 0)) := (Tab.made hown).congr (fun i _ => by simp)
    clear hown hgrow hi hz0 hz1 hz2
    go_loopw [24] (fun i wr => ∃ k : Nat, k ≤ n ∧ i = .int .i64 k ∧ Below w.heap.size w wr ∧ w.heap.size < wr.heap.size ∧ Tab wr w.heap.size n (fun i => .int .i64 (if i < k then (f i : Int) else 0))) (fun i _ => n - (intOf i).toNat)
    case atStart => exact ⟨0, Nat.zero_le _, rfl, hb1, hs1, hT1⟩
    case round =>
      clear hb1 hs1 hT1
      obtain ⟨k, hk, rfl, hB, hs, hT⟩ := hrel
      by_cases hlt : k < n
      · obtain ⟨b, off, rfl, hb, hc⟩ := hrow.out (by omega)
        have hck : wr.cell? ⟨b, off + k, none⟩ = some (.int .i64 (z k)) := (hB.cell (p := ⟨b, off + k, none⟩) hb).trans (hc k hlt)
        have hcs := hT.cell k hlt
        have hfs := hT.free k hlt
        have he := HFZ.out k hlt
        have HT : Hid (Tab wr w.heap.size n (fun i => .int .i64 (if i < k then (f i : Int) else 0))) := hT
        simp only [Nat.lt_irrefl, if_false] at hcs
        clear hc hT
        go_wp2
        go_roundw
        case rel =>
          refine ⟨k + 1, by omega, by go_num, hB.setCell (Nat.le_refl _) _, by simpa using hs, HT.out.set k _ (by simp) (fun i hi => ?_)⟩
          by_cases e : i < k
          · simp [e, show i < k + 1 from by omega]
          · simp [e, show ¬ i < k + 1 from by omega]
        case measure => simp [intOf]; omega
      · have hkn : k = n := by omega
        subst hkn
        have hN : Nodes wr w.heap.size k f := hT.congr (fun i hi => by simp [hi])
        clear hT
        go_wp2_with fail
        refine (loopOf_any w.heap.size k f wr hn' HF.out hs hN).mono ?_
        rintro e w2 ⟨⟨r, rfl, hgood⟩, hb2⟩
        have hN2 : Nodes w2 w.heap.size k f := hN.below hb2 hs
        have hB2 : Below w.heap.size w w2 := hB.trans (hb2.mono (Nat.le_of_lt hs))
        have HG : Hid (Gr.Good f k r) := hgood
        clear hgood hb2 hN hB hs hk hlt
        go_wp2
        go_loopw [43] (fun i w3 => ∃ j : Nat, j ≤ k ∧ i = .int .i64 j ∧ Below w.heap.size w w3 ∧ Nodes w3 w.heap.size k f) (fun i _ => k - (intOf i).toNat)
        case atStart => exact ⟨0, Nat.zero_le _, rfl, hB2, hN2⟩
        case round =>
          clear hB2 hN2
          obtain ⟨j, hj, rfl, hB, hN⟩ := hrel
          by_cases hlt : j < k
          · obtain ⟨b, off, rfl, hb, hc⟩ := hrow.out (by omega)
            have hck : wr.cell? ⟨b, off + j, none⟩ = some (.int .i64 (z j)) := (hB.cell (p := ⟨b, off + j, none⟩) hb).trans (hc j hlt)
            have hcs := hN.cell j hlt
            have he := HFZ.out j hlt
            have HN : Hid (Nodes wr w.heap.size k f) := hN
            clear hc hN
            go_wp2
            go_quiet (fail)
            go_wp2
            go_roundw
            case rel => exact ⟨j + 1, by omega, by go_num, below_drewN hB _, HN.out.drewN _⟩
            case measure => simp [intOf]; omega
          · have hjk : j = k := by omega
            subst hjk
            clear hj
            go_wp2
            go_loop [10, 11] (fun s i => ∃ x : Nat, x ≤ j ∧ i = .int .i64 x ∧ s = .bool (Gr.Some f j x)) (fun _ i => j - (intOf i).toNat)
            case atStart => exact ⟨0, Nat.zero_le _, rfl, rfl⟩
            case round =>
              obtain ⟨x, hx, rfl, rfl⟩ := hrel
              by_cases hlt : x < j
              · go_wp2
                go_loop [12, 13] (fun y i => ∃ m : Nat, m ≤ j ∧ i = .int .i64 m ∧ y = .int .i64 (Gr.it f m x : Nat)) (fun _ i => j - (intOf i).toNat)
                case atStart => exact ⟨0, Nat.zero_le _, rfl, rfl⟩
                case round =>
                  obtain ⟨m, hm, rfl, rfl⟩ := hrel
                  have hy := Gr.it_lt HF.out m hlt
                  have hcy := hN.cell _ hy
                  by_cases hmk : m < j
                  · go_wp2
                    go_round
                    case rel => exact ⟨m + 1, by omega, by go_num, rfl⟩
                    case measure => simp [intOf]; omega
                  · have hmk' : m = j := by omega
                    subst hmk'
                    by_cases hfx : f (Gr.it f m x) = Gr.it f m x
                    · have ht : ((f (Gr.it f m x) : Int) != (Gr.it f m x : Int)) = false := by simp [hfx]
                      have HS : Hid (Gr.Some f m (x + 1) = Gr.Some f m x) := by show _ = _; simp [Gr.Some, hfx]
                      clear hfx
                      go_wp2
                      go_round
                      case rel => exact ⟨x + 1, by omega, by go_num, by rw [HS.out]⟩
                      case measure => simp [intOf]; omega
                    · have ht : ((f (Gr.it f m x) : Int) != (Gr.it f m x : Int)) = true := by simp; omega
                      have HS : Hid (Gr.Some f m (x + 1) = true) := by show _ = _; simp [Gr.Some, hfx]
                      clear hfx
                      go_wp2
                      go_round
                      case rel => exact ⟨x + 1, by omega, by go_num, by rw [HS.out]⟩
                      case measure => simp [intOf]; omega
              · have hxk : x = j := by omega
                subst hxk
                rcases HG.out with ⟨hr, hall⟩ | ⟨r', hr', hr, hne, m, hm, hback⟩
                · subst hr
                  have hS := Gr.good_none HF.out hall
                  rw [hS]
                  go_wp2
                  go_ret
                  exact ⟨rfl, hB⟩
                · subst hr
                  have hS := Gr.good_some hr' hne hm hback
                  rw [hS]
                  obtain ⟨p, hp1, hp2, hp⟩ := Gr.back_by HF.out hr' hm hback
                  have HP : Hid (Gr.it f p r' = r') := hp
                  have hcr := hN.cell _ hr'
                  have htr : ((f r' : Int) == (r' : Int)) = false := by simp; omega
                  have htm : ((r' : Int) == -1) = false := by rw [beq_eq_false_iff_ne]; omega
                  clear hp hback hS HG hne
                  go_wp2
                  go_loop [14, 15] (fun y i => ∃ m : Nat, 1 ≤ m ∧ m ≤ p ∧ i = .int .i64 m ∧ y = .int .i64 (Gr.it f m r' : Nat) ∧ Hid (∀ j, 1 ≤ j → j < m → Gr.it f j r' ≠ r')) (fun _ i => x - (intOf i).toNat)
                  case atStart => exact ⟨1, Nat.le_refl _, hp1, rfl, rfl, fun j h1 h2 => by omega⟩
                  case round =>
                    obtain ⟨q, hq1, hq2, rfl, rfl, hno⟩ := hrel
                    have hy := Gr.it_lt HF.out q hr'
                    have hcy := hN.cell _ hy
                    by_cases hqr : Gr.it f q r' = r'
                    · have ht : ((Gr.it f q r' : Int) != (r' : Int)) = false := by simp [hqr]
                      have ht2 : ((Gr.it f q r' : Int) == (r' : Int)) = true := by simp [hqr]
                      clear hqr
                      by_cases hqx : q < x
                      all_goals
                        go_wp2
                        go_ret
                        exact ⟨rfl, hB⟩
                    · have ht : ((Gr.it f q r' : Int) != (r' : Int)) = true := by simp; omega
                      have hqp : q < p := by
                        by_cases e : q = p
                        · subst e; exact absurd HP.out hqr
                        · omega
                      have HQ : Hid (Gr.it f q r' ≠ r') := hqr
                      clear hqr
                      go_wp2
                      go_round
                      case rel => exact ⟨q + 1, by omega, by omega, by go_num, rfl, fun j h1 h2 => by
                        by_cases e : j = q
                        · subst e; exact HQ.out
                        · exact hno.out j h1 (by omega)⟩
                      case measure => simp [intOf]; omega
end Go.Proofs.Ybulkaknu
