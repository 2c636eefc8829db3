import Derived.Test.YbulkakoiDoorBytes
namespace Go.Proofs.YbulkakoiDoor
open Go.RowKit

theorem hsub_i64 (ha : Int) (st : Nat) (h : st ≤ 1024) : wrap64 (wrap64 (ha + st) - ha) = (st : Int) := by
  unfold wrap64; omega

theorem eqlNil30 (w : World) : (binOp .eql 30 .nilIface .nilIface).run Ybad.prog w = .ok (.bool true) w := by kernel_rfl

theorem made_row {w : World} {base g n : Nat} (h : w.ownsRow base 5 1 (.slice (some ⟨g, 0, none⟩) n n) n (madeCells #[.int .u8 0] (n * 1)).toList) : Row w g n (fun _ => 0) := by
  have := made_block h
  show _ = _
  rw [this, Nat.mul_one, toList_madeCells_one]
  congr 3
  exact (List.map_const' (l := List.range n) (b := Value.int .u8 0)).symm ▸ (by simp)

theorem Lies.below {B : Nat} {w w' : World} {ao : Option Addr} {n : Nat} {b : Nat → Int} (h : Lies w ao n b) (hB : Below B w w') (hlt : w.heap.size ≤ B) : Lies w' ao n b := by
  intro hp
  obtain ⟨g, off, rfl, hc⟩ := h hp
  exact ⟨g, off, rfl, fun i hi => (hB.cell (p := ⟨g, off + i, none⟩) (Nat.lt_of_lt_of_le (World.block_lt_of_cell? w _ (hc i hi)) hlt)).trans (hc i hi)⟩

set_option maxHeartbeats 1000000 in
set_option maxRecDepth 100000 in
theorem held_any (a0 : Option Addr) (n c0 : Nat) (z : Nat → Int) (ha s0 t0 : Int) (w : World) (hs0 : 0 ≤ s0) (hs1 : s0 ≤ 65535) (ht0 : 0 ≤ t0) (ht1 : t0 ≤ 65535) (hrow : Hid (Lies w a0 n z)) :
    Calls Ybad.prog 4 #[.slice a0 n c0, .int .i64 ha, .int .u16 s0, .int .u16 t0] w fun e w' => e = .returned (.bool true) ∧ Below w.heap.size w w' := by
  obtain ⟨i0, hi, hz0, hz1, hz2⟩ := info_parts Ybad.info5
  by_cases hn : 1024 < n
  · go_enter Ybad.func4, Ybad.ntmps4
    go_wp2
    go_ret
    exact ⟨rfl, Below.refl _ _⟩
  have hn' : n ≤ 1024 := by omega
  clear hn
  obtain ⟨st, hst⟩ : ∃ st : Nat, s0 % ((n : Int) + 1) = (st : Int) := ⟨(s0 % ((n : Int) + 1)).toNat, by have := Int.emod_nonneg s0 (show (n : Int) + 1 ≠ 0 from by omega); omega⟩
  have hst1 : st ≤ n := by have := Int.emod_lt_of_pos s0 (show (0 : Int) < (n : Int) + 1 from by omega); omega
  obtain ⟨m, hm⟩ : ∃ m : Nat, t0 % ((n : Int) - (st : Int) + 1) = (m : Int) := ⟨(t0 % ((n : Int) - (st : Int) + 1)).toNat, by have := Int.emod_nonneg t0 (show (n : Int) - (st : Int) + 1 ≠ 0 from by omega); omega⟩
  have hm1 : st + m ≤ n := by have := Int.emod_lt_of_pos t0 (show (0 : Int) < (n : Int) - (st : Int) + 1 from by omega); omega
  have hq := eqlNil30
  go_enter Ybad.func4, Ybad.ntmps4
  go_wp2_with (at_make; refine wpList_make_full _ rfl _ _ 22 rfl w.heap.size 5 i0 (.int .u8 0) 1 Ybad.underlying22 hi hz0 hz1 _ _ _ _ n rfl rfl rfl rfl (by rw [hz2]; omega) (by unfold maxLen; omega) (Nat.le_refl _) ?_; intro w1 hown hgrow)
  have hB1 : Below w.heap.size w w1 := (Below.refl _ _).grown hgrow (Nat.le_refl _) (fun k hk => by cases hk)
  obtain ⟨w2, hrun, hR2, hbut⟩ := copy_bytes w1 w.heap.size n 0 n n n n c0 (fun _ => 0) z (some ⟨w.heap.size, 0, none⟩) a0 (made_row hown) (hrow.out.below hB1 (Nat.le_refl _)) (Nat.min_self n).symm (by omega) (fun _ => rfl)
  have hB2 : Below w.heap.size w w2 := hbut.below (Nat.le_refl _) hB1
  have HR2 : Hid (Row w2 w.heap.size n z) := hR2.congr (fun i hi => by rw [if_pos (by omega)]; rfl)
  have hs2 : w.heap.size < w2.heap.size := HR2.out.lt
  rw [hrun]
  clear hown hgrow hrun hR2 hbut hB1 hi hz0 hz1 hz2
  go_wp2_with fail
  refine (peek_held w2.heap.size w.heap.size n st m (wrap64 (ha + st)) ha _ (hsub_i64 ha st (by omega)) hm1 hn' ?_ ?_ ?_).mono ?_
  · simp
  · simp
  · simp
  rintro e w3 ⟨⟨o, c, rfl, ho⟩, q, rfl⟩
  have HO : Hid (0 < m → o = st) := ho
  clear ho
  have HR3 : ∀ (O : Obj) (k : Nat), Hid (Row ((w2.alloc O).drewN k) w.heap.size n z) := fun O k => (Below.heap_alloc w2 O w.heap.size hs2).trans HR2.out
  go_wp2_with fail
  · refine (beq_any (some ⟨w.heap.size, o, none⟩) (some ⟨w.heap.size, 0, none⟩) m c _ (fun i => z (st + i)) _ (by omega) ?_ ?_).mono ?_
    · exact (HR3 _ _).out.lies st m o hm1 HO.out
    · intro hp; omega
    rintro e w3 ⟨rfl, q2, rfl⟩
    go_wp2
    go_ret
    exact ⟨rfl, below_drewN (hB2.alloc (Nat.le_of_lt hs2) _) _⟩
  · refine (beq_any (some ⟨w.heap.size, o, none⟩) (some ⟨w.heap.size, st, none⟩) m c _ (fun i => z (st + i)) _ (by omega) ?_ ?_).mono ?_
    · exact (HR3 _ _).out.lies st m o hm1 HO.out
    · exact (HR3 _ _).out.lies st m st hm1 (fun _ => rfl)
    rintro e w3 ⟨rfl, q2, rfl⟩
    go_wp2
    go_ret
    exact ⟨rfl, below_drewN (hB2.alloc (Nat.le_of_lt hs2) _) _⟩
end Go.Proofs.YbulkakoiDoor
