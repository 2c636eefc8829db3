import Derived.Test.YbulkakoiDoorStream2
import Derived.Test.YbulkakoiDoorIs
namespace Go.Proofs.YbulkakoiDoor
open Go.RowKit

set_option maxHeartbeats 1000000 in
set_option maxRecDepth 100000 in
theorem fill_eof (N D S U B n c : Nat) (z : Nat → Int) (a : Addr) (w : World) (hN : 2000 ≤ N) (hN2 : N ≤ 100000) (hn : n ≤ 1024) (hBS : B ≠ S) (hBU : B ≠ U) (hBD : B ≠ D) (hS : Src w N D S U n c n z) (hB : Blk w B (bufB N U S n .nilIface) 81)
    (hE : w.cell? ⟨0, 0, none⟩ = some (.iface 103 (.pointer (some a)))) :
    Calls Ybad.prog 19 #[.pointer (some ⟨B, 0, none⟩)] w fun e w' => e = .returned (.tuple #[]) ∧ Src w' N D S U n c n z ∧ Blk w' B (bufB N U S n (.iface 103 (.pointer (some a)))) 81 ∧ Oth [B] w w' := by
  have HS : Hid (Src w N D S U n c n z) := hS
  have HB : Hid (Blk w B (bufB N U S n .nilIface) 81) := hB
  have b0 : w.cell? ⟨B, 0, none⟩ = some (.slice (some ⟨U, 0, none⟩) N N) := hB.cell 0
  have b1 : w.cell? ⟨B, 1, none⟩ = some (.iface 24 (.pointer (some ⟨S, 0, none⟩))) := hB.cell 1
  have b2 : w.cell? ⟨B, 2, none⟩ = some (.int .i64 0) := hB.cell 2
  have b3 : w.cell? ⟨B, 3, none⟩ = some (.int .i64 n) := hB.cell 3
  have b4 : w.cell? ⟨B, 4, none⟩ = some .nilIface := hB.cell 4
  have g3 := hB.free 3
  have g4 := hB.free 4
  have i1 : (0 : Int) ≤ (n : Int) := by omega
  have i2 : (n : Int) ≤ (N : Int) := by omega
  have hNk : ¬ N = n := by omega
  have hNd : decide (N ≤ n) = false := by simp; omega
  have n1 := nil_ahead
  have n2 := method_read
  have n3 := neqNil30
  clear hS hB
  go_enter Ybad.func19, Ybad.ntmps19
  go_wp2
  go_quiet (fail)
  go_wp2
  refine wp_loop_rounds 1 ?_
  rw [rounds_succ]
  go_upto_region 9 with fail
  go_cut [3, 4] from 53 to 94 (fun a' b' wx => a' = .int .i64 0 ∧ b' = .iface 103 (.pointer (some a)) ∧ ∃ q, wx = w.drewN q)
  case first =>
    clear b2 b4 g3 g4 n3
    go_region_held3 (fun w' => w'.cell? ⟨B, 0, none⟩ = some (.slice (some ⟨U, 0, none⟩) N N) ∧ w'.cell? ⟨B, 1, none⟩ = some (.iface 24 (.pointer (some ⟨S, 0, none⟩))) ∧ w'.cell? ⟨B, 3, none⟩ = some (.int .i64 n)) (go_keep)
      ((go_at_call 38; refine (read_eof N D S U n c (N - n) z _ _ (by exact HS.out.of_heap rfl) (by exact hE) ⟨_, _, rfl⟩ _).mono ?_; rintro e w' ⟨rfl, q', rfl⟩))
    all_goals
      go_wp2_with fail
      go_meet
      exact ⟨rfl, rfl, _, rfl⟩
  case rest =>
    obtain ⟨rfl, rfl, q, rfl⟩ := hcut
    go_wp2
    refine bodyPost_ret (v := .tuple #[]) (by simp [results, Ybad.results19]) rfl ?_
    have hO : Oth [B] w (((w.drewN q).setCell ⟨B, 3, none⟩ (.int .i64 n)).setCell ⟨B, 4, none⟩ (.iface 103 (.pointer (some a)))) := (((Oth.refl [B] w).drewN q).setCell (by simp) 3 _).setCell (by simp) 4 _
    refine ⟨rfl, HS.out.oth hO (by simp [Ne.symm hBD]) (by simp [Ne.symm hBS]) (by simp [Ne.symm hBU]), ?_, hO⟩
    have h := ((show Blk (w.drewN q) B (bufB N U S n .nilIface) 81 from HB.out).set 3 (.int .i64 n)).set 4 (.iface 103 (.pointer (some a)))
    exact h

theorem eqlNil30' (w : World) : (binOp .eql 30 .nilIface .nilIface).run Ybad.prog w = .ok (.bool true) w := by kernel_rfl
theorem eqlIf30 (t : TypeId) (v : Value) (w : World) : (binOp .eql 30 (.iface t v) .nilIface).run Ybad.prog w = .ok (.bool false) w := by kernel_rfl

theorem readErr_any (B : Nat) (t : TypeId) (v : Value) (w : World) (b4 : w.cell? ⟨B, 4, none⟩ = some (.iface t v)) (g4 : w.frozen? ⟨B, 4, none⟩ = false) :
    Calls Ybad.prog 20 #[.pointer (some ⟨B, 0, none⟩)] w fun e w' => e = .returned (.iface t v) ∧ w' = w.setCell ⟨B, 4, none⟩ .nilIface := by
  go_enter Ybad.func20, Ybad.ntmps20
  go_wp2
  go_ret
  exact ⟨rfl, rfl⟩

/-- the reader at rest: k bytes buffered. -/
structure Rest (w : World) (N D S U B n c k : Nat) (z : Nat → Int) (E : Value) : Prop where
  src : Src w N D S U n c k z
  buf : Blk w B (bufB N U S k E) 81

theorem Rest.of_heap {w w' : World} {N D S U B n c k : Nat} {z : Nat → Int} {E : Value} (h : Rest w N D S U B n c k z E) (e : w'.heap = w.heap) : Rest w' N D S U B n c k z E :=
  ⟨h.src.of_heap e, by show _ = _; rw [e]; exact h.buf⟩

end Go.Proofs.YbulkakoiDoor
