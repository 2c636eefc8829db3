import Derived.Test.YbulkakmsCIns
namespace Go.Proofs.Ybulkakms
open Go.RowKit

theorem over_not (w : World) (vb g o lb cb c : Nat) (x : Vc) (cur : Array Value) (hx : w.heap[vb]? = some (.cells x.v 66)) (hg : w.heap[g]? = some (.cells cur 66)) (hc : cur.size = c * 3) (hc0 : 0 < c) (hne : vb ≠ g) :
    (callFunc 28 #[.slice (some ⟨vb, 0, none⟩) 1 1, .slice (some ⟨g, o, none⟩) lb cb]).run Yba.prog w = .ok (.value (.bool false)) w := by
  obtain ⟨i0, hi, _, hz1, _⟩ := info66
  rw [run_callFunc_extern Yba.func28 (by kernel_rfl) (by kernel_rfl) (by kernel_rfl) (e := Extern.SlicesOverlaps.overlaps #[61, 61] #[4]) (by kernel_rfl),
    Lib.run_overlaps_apart w 61 4 66 Yba.underlying61 3 (fun w => by simp [sizeOf, typeInfo, hi, hz1]) ⟨vb, 0, none⟩ ⟨g, o, none⟩ 1 1 lb cb hne 66 66 3 (c * 3)
      (by simp [World.shape?, hx, Vc.v]) (by simp [World.shape?, hg, hc]) (by omega) (frozen_of_row _ _ _ _ _ hx) (frozen_of_row _ _ _ _ _ hx)]
  rfl

set_option maxHeartbeats 4000000 in
set_option maxRecDepth 100000 in
/-- slices.Insert in place. -/
theorem ins_shift (base g n c i : Nat) (cur : Array Value) (l : List Vc) (x : Vc) (vb : Nat) (w : World) (hl : n ≤ 4096) (hi : i < n) (hroom : n + 1 ≤ c) (hc63 : c ≤ maxLen) (hln : Hid (l.length = n)) (hb : base ≤ g) (hg : Hid (w.heap[g]? = some (.cells cur 66))) (hcs : Hid (cur.size = c * 3)) (ht : Hid (cur.toList.take (n * 3) = flat3 l))
    (hx : Hid (w.heap[vb]? = some (.cells x.v 66))) (hne : vb ≠ g) :
    Calls Yba.prog 25 #[.slice (some ⟨g, 0, none⟩) n c, .int .i64 i, .slice (some ⟨vb, 0, none⟩) 1 1] w fun e w' => ∃ v', e = .returned v' ∧ Put w w' base (.slice (some ⟨g, 0, none⟩) n c) v' (l.take i ++ x :: l.drop i) := by
  have hov : ∀ o lb cb, (callFunc 28 #[.slice (some ⟨vb, 0, none⟩) 1 1, .slice (some ⟨g, o, none⟩) lb cb]).run Yba.prog w = .ok (.value (.bool false)) w := fun o lb cb => over_not w vb g o lb cb c x cur hx.out hg.out hcs.out (by omega) hne
  have hz2 : ¬ ((i : Int) = (n : Int)) := by omega
  have hw1 : IntKind.i64.wrap ((i : Int) + 1) = (i : Int) + 1 := by rw [IntKind.wrap_i64]; omega
  have hw2 : IntKind.i64.wrap ((n : Int) + 1) = (n : Int) + 1 := by rw [IntKind.wrap_i64]; omega
  have hc9 : c ≤ 9223372036854775807 := by unfold maxLen at hc63; omega
  have hz3 : decide ((c : Int) < (n : Int) + 1) = false := by simp; omega
  have hxl : x.v.toList.length = 3 := rfl
  have hDl : (flat3 (l.drop i)).length = (n - i) * 3 := by rw [flat3_length, List.length_drop, hln.out]
  obtain ⟨R1, hR1⟩ : ∃ R1 : List Value, R1 = cur.toList.take ((i + 1) * 3) ++ flat3 (l.drop i) ++ cur.toList.drop ((i + 1) * 3 + (flat3 (l.drop i)).length) := ⟨_, rfl⟩
  obtain ⟨R2, hR2⟩ : ∃ R2 : List Value, R2 = R1.take (i * 3) ++ x.v.toList ++ R1.drop (i * 3 + x.v.toList.length) := ⟨_, rfl⟩
  obtain ⟨r1, r2, r3⟩ := segs_BA cur.toList (flat3 (l.take i)) x.v.toList (flat3 (l.drop i)) i n c (by simpa using hcs.out) hroom (by omega) (by rw [← flat3_take, ← ht.out, List.take_take, Nat.min_eq_left (by omega)]) hxl hDl R1 R2 hR1 hR2
  have hgl : g < w.heap.size := (Array.getElem?_eq_some_iff.1 hg.out).1
  have hcp1 : ∀ ty dc sc, (Builtin.copy_ #[61, 61] ty #[.slice (some ⟨g, (i + 1) * 3, none⟩) (n + 1 - (i + 1)) dc, .slice (some ⟨g, i * 3, none⟩) (n + 1 - i) sc]).run Yba.prog w.drew = .ok (goInt (Nat.min (n + 1 - i) (n + 1 - (i + 1)))) (w.drew.setRow g R1.toArray) := fun ty dc sc => by
    rw [hR1]
    refine run_copy_row3 w.drew ty g ((i + 1) * 3) (n + 1 - (i + 1)) dc ⟨g, i * 3, none⟩ (n + 1 - i) sc cur 66 (flat3 (l.drop i)) hg.out (by rw [hDl]; simp only [Nat.min_def]; split <;> omega) (fun j u hj => ?_) (by rw [hDl]; have := hcs.out; omega) (flat3_one _)
    have hadd : (⟨g, i * 3, none⟩ : Addr).add j = ⟨g, i * 3 + j, none⟩ := by unfold Addr.add; split <;> simp_all
    rw [hadd]
    refine (cell_of_row w g _ _ _ _ hg.out).trans ?_
    rw [← flat3_drop, List.getElem?_drop, ← ht.out, List.getElem?_take] at hj
    split at hj
    · simpa using hj
    · cases hj
  have hcp2 : ∀ ty dc, (Builtin.copy_ #[61, 61] ty #[.slice (some ⟨g, i * 3, none⟩) (n + 1 - i) dc, .slice (some ⟨vb, 0, none⟩) 1 1]).run Yba.prog (w.drew.setRow g R1.toArray) = .ok (goInt (Nat.min 1 (n + 1 - i))) ((w.drew.setRow g R1.toArray).setRow g R2.toArray) := fun ty dc => by
    rw [hR2]
    have h0 : (w.drew.setRow g R1.toArray).heap[g]? = some (.cells R1.toArray 66) := setRow_same (w := w.drew) _ hg.out
    have := run_copy_row3 (w.drew.setRow g R1.toArray) ty g (i * 3) (n + 1 - i) dc ⟨vb, 0, none⟩ 1 1 R1.toArray 66 x.v.toList h0 (by rw [hxl]; simp only [Nat.min_def]; split <;> omega) (World.news_of_block ((setRow_other w.drew _ hne).trans hx.out)) (by rw [hxl]; simp [r1]; omega) (fun u hu => by simp [Vc.v] at hu; rcases hu with rfl | rfl | rfl <;> rfl)
    simpa using this
  have HP : Hid (Put w ((w.drew.setRow g R1.toArray).setRow g R2.toArray) base (.slice (some ⟨g, 0, none⟩) n c) (.slice (some ⟨g, 0, none⟩) (n + 1) c) (l.take i ++ x :: l.drop i)) := by
    have hll : (l.take i ++ x :: l.drop i).length = n + 1 := by rw [List.length_append, List.length_cons, List.length_take, List.length_drop, hln.out]; omega
    have hfl : flat3 (l.take i ++ x :: l.drop i) = flat3 (l.take i) ++ x.v.toList ++ flat3 (l.drop i) := by
      rw [flat3_append]
      simp [flat3]
    have h0 : (w.drew.setRow g R1.toArray).heap[g]? = some (.cells R1.toArray 66) := setRow_same (w := w.drew) _ hg.out
    refine ⟨?_, ⟨rfl, rfl, rfl, by rw [setRow_size, setRow_size]; exact Nat.le_refl _, fun k _ hk => ?_⟩, .inl rfl⟩
    · rw [hll, hfl, ← r3]
      refine ⟨by rw [List.length_take, r2]; omega, .inr ⟨g, c, R2.toArray, rfl, hb, setRow_same _ h0, hroom, hc63, by simp [r2], rfl⟩⟩
    · have hkg : k ≠ g := fun e => hk (by rw [e]; rfl)
      exact (setRow_other _ _ hkg).trans (setRow_other _ _ hkg)
  generalize w.drew.setRow g R1.toArray = W1 at hcp1 hcp2 HP
  clear hR1 hR2 r1 r2 r3 hDl hxl
  have hb1 : (0 : Int) ≤ (i : Int) + 1 := by omega
  have hin : i ≤ n := by omega
  have htn : ((i : Int) + 1).toNat = i + 1 := by omega
  have hb2 : ¬ (c = i + 1) := by omega
  have hb3 : (i : Int) ≤ (n : Int) + 1 := by omega
  have hb4 : ¬ (c = i) := by omega
  have hb5 : (i : Int) + 1 ≤ (n : Int) + 1 := by omega
  have hb6 : (i : Int) ≤ (n : Int) := by omega
  go_enter Yba.func25, Yba.ntmps25
  go_upto_region 15 with (simp only [hov])
  clear hov
  go_region_held3 (fun _ => True) (trivial)
    (first
      | (refine step_copy_eq (hcp1 3 (c - (i + 1)) (c - i)) rfl (.tmp 73) (.tmp 76) rfl (by first | rfl | simp [Act.eval]) (by first | rfl | simp [Act.eval]) ?_))
  all_goals
    go_wp2_with (at_builtin; refine wpList_copy_eq (hcp2 3 (c - i)) rfl _ _ rfl (by first | rfl | simp [Act.eval]) (by first | rfl | simp [Act.eval]) ?_)
    go_ret
    exact ⟨_, rfl, HP.out⟩
end Go.Proofs.Ybulkakms
