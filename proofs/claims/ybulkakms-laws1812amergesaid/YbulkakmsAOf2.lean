import Derived.Test.YbulkakmsAOf
namespace Go.Proofs.Ybulkakms
open Go.RowKit

theorem ds_one (d : DS) : ∀ u ∈ d.v.toList, u.oneCell' = true := by
  intro u hu
  simp [DS.v] at hu
  rcases hu with rfl | rfl | rfl | rfl | rfl | rfl | rfl <;> rfl

theorem own_ge {w : World} {base e size n : Nat} {v : Value} {xs : List Value} (h : w.ownsRow base e size v n xs) : ∀ k, v.ownBlock = some k → base ≤ k := by
  intro k hk
  obtain ⟨_, h | ⟨g, cap, cur, rfl, hb, _⟩⟩ := h
  · rw [h.1] at hk; cases hk
  · simp only [Value.ownBlock, Option.some.injEq] at hk
    subst hk
    exact hb

/-- the cells of a one-element row just made. -/
theorem cells_new (w : World) (d : DS) (t : TypeId) : ∀ j u, d.v.toList[j]? = some u → (w.alloc (.cells d.v t)).cell? ((⟨w.heap.size, 0, none⟩ : Addr).add j) = some u := by
  intro j u h
  rw [Go.WideShapes.add_plain, Nat.zero_add, World.cell?_alloc_at _ _ _ _ rfl]
  simpa using h

theorem owns_of {w w' : World} {base e size n : Nat} {v : Value} {xs : List Value} (h : w.ownsRow base e size v n xs) (hk : ∀ g, v.ownBlock = some g → w'.heap[g]? = w.heap[g]?) : w'.ownsRow base e size v n xs := by
  obtain ⟨hl, h0 | ⟨g, cap, cur, rfl, hb, hh, hr⟩⟩ := h
  · exact ⟨hl, .inl h0⟩
  · exact ⟨hl, .inr ⟨g, cap, cur, rfl, hb, (hk g rfl).trans hh, hr⟩⟩

theorem own_lt {w : World} {base e size n : Nat} {v : Value} {xs : List Value} (h : w.ownsRow base e size v n xs) : ∀ k, v.ownBlock = some k → k < w.heap.size := by
  intro k hk
  obtain ⟨_, h | ⟨g, cap, cur, rfl, hb, hh, _⟩⟩ := h
  · rw [h.1] at hk; cases hk
  · simp only [Value.ownBlock, Option.some.injEq] at hk
    subst hk
    exact (Array.getElem?_eq_some_iff.1 hh).1

theorem owns_below {w w' : World} {base e size n : Nat} {v : Value} {xs : List Value} (h : w.ownsRow base e size v n xs) (hb : Below w.heap.size w w') : w'.ownsRow base e size v n xs :=
  owns_of h (fun g hg => hb.block g (own_lt h g hg))

/-- aspan, its answer written out. -/
theorem aspan_out (s : Sp) (w : World) (h : s.ok) : Calls Yba.prog 17 #[.agg #[.int .u8 s.dir, .int .i64 s.f, .int .i64 s.l, .int .u8 s.nm, .int .u8 s.par, .bool s.ar, .bool s.rn]] w fun e w' => e = .returned (.agg #[.int .i64 s.f, .int .i64 s.l, .string (nmS (s.nm % 3)), .int .u64 0, .int .u64 (s.par % 2), .bool s.ar, .bool s.rn]) ∧ Below w.heap.size w w' := aspan_any s w h

set_option maxHeartbeats 2000000 in
theorem aof_any (so : Option Addr) (n cap : Nat) (sp : Nat → Sp) (d : Nat) (w : World) (hn : n ≤ 1024) (hs : SpansAt w so n sp) :
    Calls Yba.prog 8 #[.slice so n cap, .int .i64 d] w fun e w' => ∃ v, e = .returned v ∧ w'.ownsRow w.heap.size 35 7 v (ofD sp d n).length (flat (ofD sp d n)) ∧ Below w.heap.size w w' := by
  obtain ⟨i0, hi, hz0, hz1, hz2⟩ := info_parts info35
  have HS := (show Hid _ from hs)
  clear hs
  go_enter Yba.func8, Yba.ntmps8
  go_wp2
  go_loopw [5, 10] (fun v iv wr => ∃ i : Nat, i ≤ n ∧ iv = .int .i64 i ∧ Hid (wr.ownsRow w.heap.size 35 7 v (ofD sp d i).length (flat (ofD sp d i))) ∧ Hid (Below w.heap.size w wr)) (fun _ iv _ => n - (intOf iv).toNat)
  case atStart => exact ⟨0, Nat.zero_le _, rfl, World.ownsRow_nil w _ _ _, Below.refl _ _⟩
  case round =>
    obtain ⟨i, hin, rfl, hown, hB⟩ := hrel
    by_cases hlt : i < n
    · obtain ⟨b, off, rfl, hb, hc⟩ := HS.out (by omega)
      obtain ⟨hok, hci⟩ := hc i hlt
      obtain ⟨o0, o1, o2, o3, o4, o5⟩ := hok
      have hbs := hB.out.size
      have k0 : wr.cell? ⟨b, off + i * 7, none⟩ = some (.int .u8 (sp i).dir) := (hB.out.cell (p := ⟨b, _, none⟩) hb).trans (hci 0 (by omega))
      have k1 : wr.cell? ⟨b, off + i * 7 + 1, none⟩ = some (.int .i64 (sp i).f) := (hB.out.cell (p := ⟨b, _, none⟩) hb).trans (hci 1 (by omega))
      have k2 : wr.cell? ⟨b, off + i * 7 + 2, none⟩ = some (.int .i64 (sp i).l) := (hB.out.cell (p := ⟨b, _, none⟩) hb).trans (hci 2 (by omega))
      have k3 : wr.cell? ⟨b, off + i * 7 + 3, none⟩ = some (.int .u8 (sp i).nm) := (hB.out.cell (p := ⟨b, _, none⟩) hb).trans (hci 3 (by omega))
      have k4 : wr.cell? ⟨b, off + i * 7 + 4, none⟩ = some (.int .u8 (sp i).par) := (hB.out.cell (p := ⟨b, _, none⟩) hb).trans (hci 4 (by omega))
      have k5 : wr.cell? ⟨b, off + i * 7 + 5, none⟩ = some (.bool (sp i).ar) := (hB.out.cell (p := ⟨b, _, none⟩) hb).trans (hci 5 (by omega))
      have k6 : wr.cell? ⟨b, off + i * 7 + 6, none⟩ = some (.bool (sp i).rn) := (hB.out.cell (p := ⟨b, _, none⟩) hb).trans (hci 6 (by omega))
      have hbw : b < wr.heap.size := by omega
      clear hc hci
      by_cases he : (sp i).dir % 4 = d
      · have ht : ((sp i).dir % 4 == (d : Int)) = true := by simp [he]
        have HE : Hid ((sp i).dir % 4 = d) := he
        clear he
        go_wp2_with fail
        refine (aspan_out (sp i) _ ⟨o0, o1, o2, o3, o4, o5⟩).mono ?_
        rintro e w1 ⟨rfl, hb1⟩
        have hB1 : Hid (Below w.heap.size w w1) := (hB.out.alloc hbs _).trans (hb1.mono (by simp; omega))
        have hO1 : Hid (w1.ownsRow w.heap.size 35 7 u5 (ofD sp d i).length (flat (ofD sp d i))) := owns_below (hown.out.alloc _) hb1
        have hl1 := ofD_le sp d i
        have hs1 := hB1.out.size
        clear hb1 k0 k1 k2 k3 k4 k5 k6
        go_wp2_with (at_builtin; refine wpList_append_own _ rfl _ _ 29 rfl w.heap.size 35 i0 _ 7 56 Yba.underlying29 hi hz0 hz1 hz2 rfl (by decide) _ _ _ rfl (hO1.out.alloc _) ⟨w1.heap.size, 0, none⟩ 1 1 (sp i).ds.v.toList rfl rfl (cells_new w1 (sp i).ds 35) (ds_one _) (by unfold maxLen; omega) (by omega) (by simp; omega) ?_; intro v' w3 hown' hgrow' hnil')
        have hB3 : Hid (Below w.heap.size w w3) := (hB1.out.alloc hs1 _).grown hgrow' (by simp; omega) (own_ge hO1.out)
        have hO3 : Hid (w3.ownsRow w.heap.size 35 7 v' (ofD sp d (i + 1)).length (flat (ofD sp d (i + 1)))) := by
          show World.ownsRow _ _ _ _ _ _ _
          rw [ofD, if_pos HE.out, flat_append, List.length_append]
          simpa [flat] using hown'
        clear hown' hgrow' hnil'
        go_roundw
        case rel => exact ⟨i + 1, by omega, by go_num, hO3, hB3⟩
        case measure => simp [intOf]; omega
      · have ht : ((sp i).dir % 4 == (d : Int)) = false := by simp [he]
        have he' : ofD sp d (i + 1) = ofD sp d i := by rw [ofD, if_neg he]
        have HO : Hid (wr.ownsRow w.heap.size 35 7 u5 (ofD sp d (i + 1)).length (flat (ofD sp d (i + 1)))) := by rw [he']; exact hown
        clear he he'
        go_wp2
        go_roundw
        case rel => exact ⟨i + 1, by omega, by go_num, HO.out.alloc _, hB.out.alloc hbs _⟩
        case measure => simp [intOf]; omega
    · obtain rfl : i = n := by omega
      go_wp2
      go_ret
      exact ⟨_, rfl, hown.out, hB.out⟩
end Go.Proofs.Ybulkakms
