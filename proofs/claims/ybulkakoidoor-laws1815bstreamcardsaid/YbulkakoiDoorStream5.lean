import Derived.Test.YbulkakoiDoorStream4
import Derived.Test.YbulkakoiDoorIs2
namespace Go.Proofs.YbulkakoiDoor
open Go.RowKit

theorem neq22nil (w : World) : (binOp .neq 22 (.slice none 0 0) (.slice none 0 0)).run Ybad.prog w = .ok (.bool false) w := by kernel_rfl

set_option maxHeartbeats 1000000 in
set_option maxRecDepth 100000 in
theorem peek_stream (R N D S U B n c k m : Nat) (z : Nat → Int) (a : Addr) (w : World) (hN : 2000 ≤ N) (hN2 : N ≤ 100000) (hn : n ≤ 1024) (hc1 : 1 ≤ c) (hc8 : c ≤ 8) (hm : m ≤ n + 2) (hk : k ≤ n) (hDU : D ≠ U) (hSU : S ≠ U) (hDS : D ≠ S) (hBS : B ≠ S) (hBU : B ≠ U) (hBD : B ≠ D)
    (h0 : 0 ∉ [S, U, B]) (hR : Rest w N D S U B n c k z .nilIface) (hE : w.cell? ⟨0, 0, none⟩ = some (.iface 103 (.pointer (some a))))
    (r0 : w.cell? ⟨R, 0, none⟩ = some (.pointer (some ⟨B, 0, none⟩))) (r3 : w.cell? ⟨R, 3, none⟩ = some (.slice none 0 0)) :
    Calls Ybad.prog 8 #[.pointer (some ⟨R, 0, none⟩), .int .i64 m] w fun e w' => Peeked U 0 (min m n) e ∧ (∃ k', k' ≤ n ∧ min m n ≤ k' ∧ Rest w' N D S U B n c k' z .nilIface) ∧ Oth [S, U, B] w w' := by
  have HR : Hid (Rest w N D S U B n c k z .nilIface) := hR
  have q1 := neq22nil
  have q2 := neqNil30
  have q3 := neqNilNil30
  clear hR
  go_enter Ybad.func8, Ybad.ntmps8
  go_wp2_with fail
  refine (peekB N D S U B n c k m z a w hN hN2 hn hc1 hc8 hm hk hDU hSU hDS hBS hBU hBD h0 HR.out hE).mono ?_
  rintro e w1 ⟨⟨hmn, cc, rfl⟩ | ⟨hnm, cc, rfl⟩, hR1, hO⟩
  · have HR1 : Hid (∃ k', k' ≤ n ∧ min m n ≤ k' ∧ Rest w1 N D S U B n c k' z .nilIface) := hR1
    have HO : Hid (Oth [S, U, B] w w1) := hO
    clear hR1 hO
    go_wp2
    go_ret2
    exact ⟨⟨0, cc, by rw [Nat.min_eq_left hmn]; rfl, fun _ => rfl⟩, HR1.out, HO.out⟩
  · have HR1 : Hid (∃ k', k' ≤ n ∧ min m n ≤ k' ∧ Rest w1 N D S U B n c k' z .nilIface) := hR1
    have hE1 : w1.cell? ⟨0, 0, none⟩ = some (.iface 103 (.pointer (some a))) := (hO.cell h0 0).trans hE
    have HO : Hid (Oth [S, U, B] w w1) := hO
    clear hR1 hO
    go_wp2_with fail
    refine (is_same a w1).mono ?_
    rintro e w2 ⟨rfl, rfl⟩
    go_wp2
    go_ret2
    exact ⟨⟨0, cc, by rw [Nat.min_eq_right (Nat.le_of_lt hnm)]; rfl, fun _ => rfl⟩, HR1.out, HO.out⟩
end Go.Proofs.YbulkakoiDoor
