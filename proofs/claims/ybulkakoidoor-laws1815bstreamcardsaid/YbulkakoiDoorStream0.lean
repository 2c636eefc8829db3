import Derived.Test.YbulkakoiDoorStream1
import Derived.Deep.RegionWith
namespace Go.Proofs.YbulkakoiDoor
open Go.RowKit

/-- the buffer's size: 65535. -/
def bigN : Nat := 65535

theorem assert36 (v : Value) (w : World) : (Instr.typeAssert (.iface 24 v) 74 36 true).run Ybad.prog w = .ok (.tuple #[.pointer none, .bool false]) w := by kernel_rfl

theorem made_rowN {w : World} {base g n : Nat} (h : w.ownsRow base 5 1 (.slice (some ⟨g, 0, none⟩) n n) n (madeCells #[.int .u8 0] (n * 1)).toList) : Row w g n (fun _ => 0) := by
  have := made_block h
  show _ = _
  rw [this, Nat.mul_one, toList_madeCells_one]
  congr 3
  exact (List.map_const' (l := List.range n) (b := Value.int .u8 0)).symm ▸ (by simp)

/-- what NewReaderSize makes. -/
structure NewBuf (w w' : World) (rd : Value) (B U : Nat) : Prop where
  b : Blk w' B #[.slice (some ⟨U, 0, none⟩) bigN bigN, rd, .int .i64 0, .int .i64 0, .nilIface, .int .i64 (-1), .int .i64 (-1)] 81
  u : Row w' U bigN (fun _ => 0)
  ne : B ≠ U
  geB : w.heap.size ≤ B
  geU : w.heap.size ≤ U
  below : Below w.heap.size w w'

set_option maxHeartbeats 1000000 in
theorem reset_any (B U N : Nat) (S : Nat) (x0 x1 x2 x3 x4 x5 x6 : Value) (w : World) (hB : Blk w B #[x0, x1, x2, x3, x4, x5, x6] 81) :
    Calls Ybad.prog 18 #[.pointer (some ⟨B, 0, none⟩), .slice (some ⟨U, 0, none⟩) N N, .iface 24 (.pointer (some ⟨S, 0, none⟩))] w fun e w' => e = .returned (.tuple #[]) ∧ Blk w' B #[.slice (some ⟨U, 0, none⟩) N N, .iface 24 (.pointer (some ⟨S, 0, none⟩)), .int .i64 0, .int .i64 0, .nilIface, .int .i64 (-1), .int .i64 (-1)] 81 ∧ Oth [B] w w' := by
  have b0 : w.cell? ⟨B, 0, none⟩ = some x0 := hB.cell 0
  have b1 : w.cell? ⟨B, 1, none⟩ = some x1 := hB.cell 1
  have b2 : w.cell? ⟨B, 2, none⟩ = some x2 := hB.cell 2
  have b3 : w.cell? ⟨B, 3, none⟩ = some x3 := hB.cell 3
  have b4 : w.cell? ⟨B, 4, none⟩ = some x4 := hB.cell 4
  have b5 : w.cell? ⟨B, 5, none⟩ = some x5 := hB.cell 5
  have b6 : w.cell? ⟨B, 6, none⟩ = some x6 := hB.cell 6
  have hf := hB.free
  have HB : Hid (Blk w B #[x0, x1, x2, x3, x4, x5, x6] 81) := hB
  clear hB
  go_enter Ybad.func18, Ybad.ntmps18
  go_wp2
  go_end0
  refine ⟨rfl, ?_, ?_⟩
  · have h := ((((((HB.out.set 0 (.slice (some ⟨U, 0, none⟩) N N)).set 1 (.iface 24 (.pointer (some ⟨S, 0, none⟩)))).set 2 (.int .i64 0)).set 3 (.int .i64 0)).set 4 .nilIface).set 5 (.int .i64 (-1))).set 6 (.int .i64 (-1))
    exact h
  · exact (((((((Oth.refl [B] w).setCell (by simp) 0 _).setCell (by simp) 1 _).setCell (by simp) 2 _).setCell (by simp) 3 _).setCell (by simp) 4 _).setCell (by simp) 5 _).setCell (by simp) 6 _
set_option maxHeartbeats 1000000 in
set_option maxRecDepth 100000 in
theorem newReaderSize (S : Nat) (w : World) :
    Calls Ybad.prog 13 #[.iface 24 (.pointer (some ⟨S, 0, none⟩)), .int .i64 65535] w fun e w' => ∃ B U, e = .returned (.pointer (some ⟨B, 0, none⟩)) ∧ NewBuf w w' (.iface 24 (.pointer (some ⟨S, 0, none⟩))) B U := by
  obtain ⟨i0, hi, hz0, hz1, hz2⟩ := info_parts Ybad.info5
  have ta := assert36
  go_enter Ybad.func13, Ybad.ntmps13
  go_wp2_with (at_make; refine wpList_make_full _ rfl _ _ 22 rfl w.heap.size 5 i0 (.int .u8 0) 1 Ybad.underlying22 hi hz0 hz1 _ _ _ _ bigN rfl rfl rfl rfl (by rw [hz2]; decide) (by decide) (by simp) ?_; intro w1 hown hgrow)
  have hb0 : Below (w.heap.size + 1) (w.alloc (.cells #[.slice none 0 0, .nilIface, .int .i64 0, .int .i64 0, .nilIface, .int .i64 0, .int .i64 0] 81)) w1 :=
    (Below.refl _ _).grown hgrow (by simp) (fun k hk => by cases hk)
  have hB0 : Blk w1 w.heap.size #[.slice none 0 0, .nilIface, .int .i64 0, .int .i64 0, .nilIface, .int .i64 0, .int .i64 0] 81 := (hb0.block w.heap.size (by omega)).trans (heap_alloc_new w _)
  have hU0 : Row w1 (w.heap.size + 1) bigN (fun _ => 0) := by
    have h := made_rowN hown
    simpa using h
  have hbl : Below w.heap.size w w1 := ((Below.refl _ _).alloc (Nat.le_refl _) _).trans (hb0.mono (by omega))
  clear hown hgrow
  refine (reset_any w.heap.size (w.heap.size + 1) bigN S _ _ _ _ _ _ _ w1 hB0).mono ?_
  rintro e w2 ⟨rfl, hB2, hO⟩
  have hfin : NewBuf w w2 (.iface 24 (.pointer (some ⟨S, 0, none⟩))) w.heap.size (w.heap.size + 1) :=
    ⟨hB2, hO.row (by simp) hU0, by omega, Nat.le_refl _, by omega, hO.below (by simp) hbl⟩
  clear hB2 hO hU0 hbl hB0 hb0
  go_wp2
  go_ret
  exact ⟨_, _, rfl, hfin⟩
end Go.Proofs.YbulkakoiDoor
