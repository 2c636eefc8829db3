import Derived.Test.YbulkakoiDoorStream0
namespace Go.Proofs.YbulkakoiDoor
open Go.RowKit

theorem make37 : ∃ X : Array Value, ∀ w : World, (Instr.makeSlice 37 (.int .i64 0) (.int .i64 64)).run Ybad.prog w = .ok (.slice (some ⟨w.heap.size, 0, none⟩) 0 64) (w.alloc (.cells X 122)) := by
  have hi : (Ybad.prog.info? 122).map (fun i => (i.zero, i.size, i.bytes)) = some (some (.agg #[.int .i64 0, .int .i64 0, .int .i64 0]), 3, 24) := by kernel_rfl
  obtain ⟨i, h1, h2, h3, h4⟩ := info_parts hi
  exact ⟨_, fun w => run_make w 37 122 i _ Ybad.underlying37 h1 h2 .i64 .i64 0 64 (by decide) (by decide) (by rw [h4]; decide) (by decide)⟩

/-- what NewReader makes. -/
structure NewRd (w w' : World) (rd : Value) (R B U : Nat) : Prop where
  r0 : w'.cell? ⟨R, 0, none⟩ = some (.pointer (some ⟨B, 0, none⟩))
  r3 : w'.cell? ⟨R, 3, none⟩ = some (.slice none 0 0)
  geR : w.heap.size ≤ R
  neRB : R ≠ B
  neRU : R ≠ U
  b : Blk w' B #[.slice (some ⟨U, 0, none⟩) bigN bigN, rd, .int .i64 0, .int .i64 0, .nilIface, .int .i64 (-1), .int .i64 (-1)] 81
  u : Row w' U bigN (fun _ => 0)
  ne : B ≠ U
  geB : w.heap.size ≤ B
  geU : w.heap.size ≤ U
  below : Below w.heap.size w w'

theorem newRd_of {w w0 w1 w2 : World} {rd : Value} {R B U : Nat} {cs : Array Value} (h0 : Below w.heap.size w w0) (hN : NewBuf w0 w1 rd B U) (h2 : Below w1.heap.size w1 w2) (hR : R = w2.heap.size)
    (hc0 : cs[0]? = some (.pointer (some ⟨B, 0, none⟩))) (hc3 : cs[3]? = some (.slice none 0 0)) : NewRd w (w2.alloc (.cells cs 45)) rd R B U := by
  subst hR
  have hB1 := hN.b.lt
  have hU1 := hN.u.lt
  have s0 := h0.size
  have s1 := hN.below.size
  have s2 := h2.size
  have hb3 : Below w2.heap.size w2 (w2.alloc (.cells cs 45)) := (Below.refl _ _).alloc (Nat.le_refl _) _
  have gB := hN.geB
  have gU := hN.geU
  refine ⟨?_, ?_, by omega, by omega, by omega, ?_, ?_, hN.ne, by omega, by omega, ?_⟩
  · rw [World.cell?_alloc_at _ _ _ _ rfl]; exact hc0
  · rw [World.cell?_alloc_at _ _ _ _ rfl]; exact hc3
  · exact (hb3.block B (by omega)).trans ((h2.block B hB1).trans hN.b)
  · exact (hb3.block U (by omega)).trans ((h2.block U hU1).trans hN.u)
  · exact ((h0.trans (hN.below.mono s0)).trans (h2.mono (by omega))).trans (hb3.mono (by omega))

set_option maxHeartbeats 1000000 in
set_option maxRecDepth 100000 in
theorem newReader (S : Nat) (w : World) :
    Calls Ybad.prog 7 #[.iface 24 (.pointer (some ⟨S, 0, none⟩))] w fun e w' => ∃ R B U, e = .returned (.pointer (some ⟨R, 0, none⟩)) ∧ NewRd w w' (.iface 24 (.pointer (some ⟨S, 0, none⟩))) R B U := by
  obtain ⟨X, hX⟩ := make37
  go_enter Ybad.func7, Ybad.ntmps7
  go_wp2
  go_region_with (go_at_call 13; refine (newReaderSize S _).mono ?_; rintro e w1 ⟨B, U, rfl, hN⟩)
  · go_wp2
    go_ret
    exact ⟨w1.heap.size + 1, B, U, rfl, newRd_of (w0 := w.drew) (Below.refl _ _).drew hN ((Below.refl _ _).alloc (Nat.le_refl _) _) (by simp) rfl rfl⟩
  · go_wp2
    go_ret
    exact ⟨w1.heap.size, B, U, rfl, newRd_of ((Below.refl _ _).alloc (Nat.le_refl _) _).drew hN (Below.refl _ _) rfl rfl rfl⟩
end Go.Proofs.YbulkakoiDoor
