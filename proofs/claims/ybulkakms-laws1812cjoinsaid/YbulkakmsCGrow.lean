import Derived.Test.YbulkakmsCShift
namespace Go.Proofs.Ybulkakms
open Go.RowKit

theorem zeroCells_len (cs : Array Value) (n : Nat) : (Builtin.zeroCells cs n).size = n * cs.size := size_zeroCells ..

set_option maxHeartbeats 4000000 in
set_option maxRecDepth 100000 in
/-- slices.Insert where there is no room. -/
theorem ins_grow (base g n c i : Nat) (cur : Array Value) (l : List Vc) (x : Vc) (vb : Nat) (w : World) (hl : n ≤ 4096) (hi : i < n) (hnc : n ≤ c) (hroom : c < n + 1) (hln : Hid (l.length = n)) (hb : base ≤ w.heap.size) (hg : Hid (w.heap[g]? = some (.cells cur 66))) (ht : Hid (cur.toList.take (n * 3) = flat3 l))
    (hx : Hid (w.heap[vb]? = some (.cells x.v 66))) :
    Calls Yba.prog 25 #[.slice (some ⟨g, 0, none⟩) n c, .int .i64 i, .slice (some ⟨vb, 0, none⟩) 1 1] w fun e w' => ∃ v', e = .returned v' ∧ Put w w' base (.slice (some ⟨g, 0, none⟩) n c) v' (l.take i ++ x :: l.drop i) := by
  obtain ⟨i0, hi0, hz0, hzs, hzb⟩ := info66
  have hgl : g < w.heap.size := (Array.getElem?_eq_some_iff.1 hg.out).1
  have hvl : vb < w.heap.size := (Array.getElem?_eq_some_iff.1 hx.out).1
  have hxl : x.v.toList.length = 3 := rfl
  have hDl : (flat3 (l.drop i)).length = (n - i) * 3 := by rw [flat3_length, List.length_drop, hln.out]
  have hPl : (flat3 (l.take i)).length = i * 3 := by rw [flat3_length, List.length_take, hln.out]; omega
  have hcur : ∀ j u, (flat3 l)[j]? = some u → w.cell? ⟨g, j, none⟩ = some u := fun j u hj => by
    refine (cell_of_row w g _ _ _ _ hg.out).trans ?_
    rw [← ht.out, List.getElem?_take] at hj
    split at hj
    · simpa using hj
    · cases hj
  have hadd : ∀ o j, (⟨g, o, none⟩ : Addr).add j = ⟨g, o + j, none⟩ := fun o j => by unfold Addr.add; split <;> simp_all
  have hold : (Builtin.firstCells i0.size i (.slice (some ⟨g, 0, none⟩) i c)).run Yba.prog w.drew = .ok (flat3 (l.take i)).toArray w.drew := by
    rw [hzs]
    exact run_firstCells_some w.drew 3 i ⟨g, 0, none⟩ i c (flat3 (l.take i)) (by rw [hPl]) (fun j u hj => by
      rw [hadd, Nat.zero_add]
      rw [← flat3_take, List.getElem?_take] at hj
      split at hj
      · exact hcur j u hj
      · cases hj)
  obtain ⟨G, hG⟩ : ∃ G, G = grownCap w (n + 1) c 66 := ⟨_, rfl⟩
  have hGn : n + 1 ≤ G := by rw [hG]; exact grownCap_ge w _ _ _
  have hG63 : G ≤ maxLen := by rw [hG]; exact grownCap_le_maxLen w (n + 1) c 66 (by unfold maxLen; omega)
  obtain ⟨ROW, hROW⟩ : ∃ ROW : Array Value, ROW = (flat3 (l.take i)).toArray ++ Builtin.zeroCells (Value.agg #[.int .u16 0, .int .u16 0, .int .i64 0]).cells (n + 1 - i) ++ Builtin.zeroCells (Value.agg #[.int .u16 0, .int .u16 0, .int .i64 0]).cells (G - (n + 1)) := ⟨_, rfl⟩
  have hRl : ROW.size = G * 3 := by
    rw [hROW]
    simp only [Array.size_append, List.size_toArray, zeroCells_len, hPl]
    have : (Value.agg #[.int .u16 0, .int .u16 0, .int .i64 0]).cells.size = 3 := rfl
    rw [this]
    omega
  have hRt : ROW.toList.take (i * 3) = flat3 (l.take i) := by
    rw [hROW]
    simp only [Array.toList_append, List.append_assoc]
    rw [List.take_left' hPl]
  have hkk : (n : Int) + 1 - (i : Int) = ((n + 1 - i : Nat) : Int) := by omega
  have hik : i + (n + 1 - i) = n + 1 := by omega
  have hrz : ∀ ty, (Builtin.append_ #[61, 3] ty #[.slice (some ⟨g, 0, none⟩) i c, .int .i64 ((n : Int) + 1 - (i : Int))]).run Yba.prog w = .ok (.slice (some ⟨w.heap.size, 0, none⟩) (n + 1) G) (w.drew.alloc (.cells ROW 66)) := fun ty => by
    have h := Lib.run_append_grow_zeros w 61 3 ty 66 i0 _ .i64 .i64 Yba.underlying61 Yba.underlying3 hi0 hz0 (some ⟨g, 0, none⟩) i c (flat3 (l.take i)) hold (n + 1 - i) (by omega) (by omega) (by omega) (by omega) (by rw [hzb]; omega) (by rw [hzb, hik]; exact growslice_fits_wide hroom (by omega))
    rw [hik] at h
    rw [hkk, hROW, hG]
    exact h
  obtain ⟨W1, hW1⟩ : ∃ W1, W1 = w.drew.alloc (.cells ROW 66) := ⟨_, rfl⟩
  rw [← hW1] at hrz
  have hN1 : W1.heap[w.heap.size]? = some (.cells ROW 66) := by rw [hW1]; exact heap_alloc_new w.drew _
  have hO1 : ∀ k, k < w.heap.size → W1.heap[k]? = w.heap[k]? := fun k hk => by rw [hW1]; exact Below.heap_alloc w.drew _ _ hk
  have hS1 : W1.heap.size = w.heap.size + 1 := by rw [hW1]; simp
  obtain ⟨R1, hR1⟩ : ∃ R1 : List Value, R1 = ROW.toList.take (i * 3) ++ x.v.toList ++ ROW.toList.drop (i * 3 + x.v.toList.length) := ⟨_, rfl⟩
  obtain ⟨R2, hR2⟩ : ∃ R2 : List Value, R2 = R1.take ((i + 1) * 3) ++ flat3 (l.drop i) ++ R1.drop ((i + 1) * 3 + (flat3 (l.drop i)).length) := ⟨_, rfl⟩
  obtain ⟨r1, r2, r3⟩ := segs_AB ROW.toList (flat3 (l.take i)) x.v.toList (flat3 (l.drop i)) i n G (by simpa using hRl) hGn (by omega) hRt hxl hDl R1 R2 hR1 hR2
  have hcpA : ∀ ty dc, (Builtin.copy_ #[61, 61] ty #[.slice (some ⟨w.heap.size, i * 3, none⟩) (n + 1 - i) dc, .slice (some ⟨vb, 0, none⟩) 1 1]).run Yba.prog W1 = .ok (goInt (Nat.min 1 (n + 1 - i))) (W1.setRow w.heap.size R1.toArray) := fun ty dc => by
    rw [hR1]
    exact run_copy_row3 W1 ty w.heap.size (i * 3) (n + 1 - i) dc ⟨vb, 0, none⟩ 1 1 ROW 66 x.v.toList hN1 (by rw [hxl]; simp only [Nat.min_def]; split <;> omega) (World.news_of_block ((hO1 vb hvl).trans hx.out)) (by rw [hxl, hRl]; omega) (fun u hu => by simp [Vc.v] at hu; rcases hu with rfl | rfl | rfl <;> rfl)
  obtain ⟨W2, hW2⟩ : ∃ W2, W2 = W1.setRow w.heap.size R1.toArray := ⟨_, rfl⟩
  rw [← hW2] at hcpA
  have hN2 : W2.heap[w.heap.size]? = some (.cells R1.toArray 66) := by rw [hW2]; exact setRow_same _ hN1
  have hO2 : ∀ k, k < w.heap.size → W2.heap[k]? = w.heap[k]? := fun k hk => by rw [hW2]; exact (setRow_other _ _ (by omega)).trans (hO1 k hk)
  have hcpB : ∀ ty dc sc, (Builtin.copy_ #[61, 61] ty #[.slice (some ⟨w.heap.size, (i + 1) * 3, none⟩) (n + 1 - (i + 1)) dc, .slice (some ⟨g, i * 3, none⟩) (n - i) sc]).run Yba.prog W2.drew = .ok (goInt (Nat.min (n - i) (n + 1 - (i + 1)))) (W2.drew.setRow w.heap.size R2.toArray) := fun ty dc sc => by
    rw [hR2]
    have := run_copy_row3 W2.drew ty w.heap.size ((i + 1) * 3) (n + 1 - (i + 1)) dc ⟨g, i * 3, none⟩ (n - i) sc R1.toArray 66 (flat3 (l.drop i)) hN2 (by rw [hDl]; simp only [Nat.min_def]; split <;> omega) (fun j u hj => by
      rw [hadd]
      refine (World.cell?_of_block (w := w) (a := ⟨g, i * 3 + j, none⟩) (hO2 g hgl)).trans ?_
      rw [← flat3_drop, List.getElem?_drop] at hj
      exact hcur _ u hj) (by rw [hDl]; simp [r1]; omega) (flat3_one _)
    simpa using this
  have HP : Hid (Put w (W2.drew.setRow w.heap.size R2.toArray) base (.slice (some ⟨g, 0, none⟩) n c) (.slice (some ⟨w.heap.size, 0, none⟩) (n + 1) G) (l.take i ++ x :: l.drop i)) := by
    have hll : (l.take i ++ x :: l.drop i).length = n + 1 := by rw [List.length_append, List.length_cons, List.length_take, List.length_drop, hln.out]; omega
    have hfl : flat3 (l.take i ++ x :: l.drop i) = flat3 (l.take i) ++ x.v.toList ++ flat3 (l.drop i) := by
      rw [flat3_append]
      simp [flat3]
    refine ⟨?_, ⟨by rw [hW2, hW1]; rfl, by rw [hW2, hW1]; rfl, by rw [hW2, hW1]; rfl, ?_, fun k hk _ => (setRow_other _ _ (by omega)).trans (hO2 k hk)⟩, .inr ⟨_, rfl, Nat.le_refl _⟩⟩
    · rw [hll, hfl, ← r3]
      refine ⟨by rw [List.length_take, r2]; omega, .inr ⟨w.heap.size, G, R2.toArray, rfl, hb, setRow_same (w := W2.drew) _ hN2, hGn, hG63, by simp [r2], rfl⟩⟩
    · rw [setRow_size]
      show _ ≤ W2.heap.size
      rw [hW2, setRow_size, hS1]
      omega
  generalize W2.drew.setRow w.heap.size R2.toArray = W3 at hcpB HP
  have hz2 : ¬ ((i : Int) = (n : Int)) := by omega
  have hw1 : IntKind.i64.wrap ((i : Int) + 1) = (i : Int) + 1 := by rw [IntKind.wrap_i64]; omega
  have hw2 : IntKind.i64.wrap ((n : Int) + 1) = (n : Int) + 1 := by rw [IntKind.wrap_i64]; omega
  have hw3 : IntKind.i64.wrap ((n : Int) + 1 - (i : Int)) = (n : Int) + 1 - (i : Int) := by rw [IntKind.wrap_i64]; omega
  have hz3 : decide ((c : Int) < (n : Int) + 1) = true := by simp; omega
  have hb1 : (0 : Int) ≤ (i : Int) + 1 := by omega
  have hin : i ≤ n := by omega
  have htn : ((i : Int) + 1).toNat = i + 1 := by omega
  have hb3 : (i : Int) ≤ (n : Int) + 1 := by omega
  have hb5 : (i : Int) + 1 ≤ (n : Int) + 1 := by omega
  have hb6 : (i : Int) ≤ (n : Int) := by omega
  have hci : ¬ (c = i) := by omega
  have hGi : ¬ (G = i) := by omega
  have hGi1 : ¬ (G = i + 1) := by omega
  have hG9 : G ≤ 9223372036854775807 := by unfold maxLen at hG63; omega
  have hc9 : c ≤ 9223372036854775807 := by omega
  clear hR1 hR2 r1 r2 r3 hDl hxl hold hROW hRl hRt hkk hik hW1 hW2 hG hN1 hO1 hS1 hN2 hO2 hcur hadd hPl hi0 hz0 hzs hzb
  generalize w.heap.size = N at hrz hcpA hcpB HP
  go_enter Yba.func25, Yba.ntmps25
  go_upto_region 11 with (first
    | (at_builtin; refine wpList_app_eq (hrz _) rfl _ _ rfl (by first | rfl | simp [Act.eval]) (by first | rfl | simp [Act.eval]) ?_)
    | (at_builtin; refine wpList_copy_eq (hcpA _ _) rfl _ _ rfl (by first | rfl | simp [Act.eval]) (by first | rfl | simp [Act.eval]) ?_))
  go_region_held3 (fun _ => True) (trivial)
    (first
      | (refine step_copy_eq (hcpB 3 (G - (i + 1)) (c - i)) rfl (.tmp 50) (.tmp 53) rfl (by first | rfl | simp [Act.eval]) (by first | rfl | simp [Act.eval]) ?_))
  all_goals
    go_wp2
    go_ret
    exact ⟨_, rfl, HP.out⟩
/-- slices.Insert of one. -/
theorem ins_any (base : Nat) (v : Value) (l : List Vc) (x : Vc) (vb i : Nat) (w : World) (hl : l.length ≤ 4096) (hown : w.ownsRow base 66 3 v l.length (flat3 l)) (hx : w.heap[vb]? = some (.cells x.v 66)) (hvb : v.ownBlock ≠ some vb) (hb : base ≤ w.heap.size) (hi : i ≤ l.length) :
    Calls Yba.prog 25 #[v, .int .i64 i, .slice (some ⟨vb, 0, none⟩) 1 1] w fun e w' => ∃ v', e = .returned v' ∧ Put w w' base v v' (l.take i ++ x :: l.drop i) := by
  by_cases hin : i = l.length
  · subst hin
    rw [List.take_length, List.drop_length]
    exact ins_end base v l x vb w hl hown hx hb
  · have hil : i < l.length := by omega
    obtain ⟨_, ⟨_, h0⟩ | ⟨g, c, cur, rfl, h1, h2, h3, h4, h5, h6⟩⟩ := hown
    · omega
    · by_cases hr : l.length + 1 ≤ c
      · exact ins_shift base g l.length c i cur l x vb w hl hil hr h4 rfl h1 h2 h5 h6 hx (fun e => hvb (by rw [e]; rfl))
      · exact ins_grow base g l.length c i cur l x vb w hl hil h3 (by omega) rfl hb h2 h6 hx
end Go.Proofs.Ybulkakms
