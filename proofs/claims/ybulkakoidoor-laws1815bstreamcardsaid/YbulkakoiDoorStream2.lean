import Derived.Test.YbulkakoiDoorStream1
import Derived.Deep.RegionWith
import Derived.Deep.RegionHeld3
import Derived.Deep.DeepCutAuto
namespace Go.Proofs.YbulkakoiDoor
open Go.RowKit

/-- the bufio.Reader: k bytes buffered, none taken; its error. -/
def bufB (N U S k : Nat) (E : Value) : Array Value := #[.slice (some ⟨U, 0, none⟩) N N, .iface 24 (.pointer (some ⟨S, 0, none⟩)), .int .i64 0, .int .i64 k, E, .int .i64 (-1), .int .i64 (-1)]

theorem Src.oth {w w' : World} {N D S U n c k : Nat} {z : Nat → Int} (h : Src w N D S U n c k z) {gs : List Nat} (ho : Oth gs w w') (hD : D ∉ gs) (hS : S ∉ gs) (hU : U ∉ gs) : Src w' N D S U n c k z :=
  ⟨ho.row hD h.d, ho.blk hS h.s, ho.row hU h.u⟩

theorem nil_ahead (a : Addr) (w : World) : (nilAhead 262 24 (.pointer (some a)) "Read").run Ybad.prog w = .ok (some false) w := by kernel_rfl
theorem method_read (a : Addr) (w : World) : (method 262 24 (.pointer (some a)) "Read").run Ybad.prog w = .ok (38, .pointer (some a)) w := by kernel_rfl
theorem neqNil30 (t : TypeId) (v : Value) (w : World) : (binOp .neq 30 (.iface t v) .nilIface).run Ybad.prog w = .ok (.bool true) w := by kernel_rfl
theorem neqNilNil30 (w : World) : (binOp .neq 30 .nilIface .nilIface).run Ybad.prog w = .ok (.bool false) w := by kernel_rfl

set_option maxHeartbeats 1000000 in
set_option maxRecDepth 100000 in
theorem fill_some (N D S U B n c k : Nat) (z : Nat → Int) (w : World) (hN : 2000 ≤ N) (hN2 : N ≤ 100000) (hn : n ≤ 1024) (hc1 : 1 ≤ c) (hc8 : c ≤ 8) (hk : k < n) (hDU : D ≠ U) (hSU : S ≠ U) (hDS : D ≠ S) (hBS : B ≠ S) (hBU : B ≠ U) (hBD : B ≠ D) (hS : Src w N D S U n c k z) (hB : Blk w B (bufB N U S k .nilIface) 81) :
    Calls Ybad.prog 19 #[.pointer (some ⟨B, 0, none⟩)] w fun e w' => e = .returned (.tuple #[]) ∧ ∃ c', 1 ≤ c' ∧ k + c' ≤ n ∧ Src w' N D S U n c (k + c') z ∧ Blk w' B (bufB N U S (k + c') .nilIface) 81 ∧ Oth [S, U, B] w w' := by
  have HS : Hid (Src w N D S U n c k z) := hS
  have HB : Hid (Blk w B (bufB N U S k .nilIface) 81) := hB
  have b0 : w.cell? ⟨B, 0, none⟩ = some (.slice (some ⟨U, 0, none⟩) N N) := hB.cell 0
  have b1 : w.cell? ⟨B, 1, none⟩ = some (.iface 24 (.pointer (some ⟨S, 0, none⟩))) := hB.cell 1
  have b2 : w.cell? ⟨B, 2, none⟩ = some (.int .i64 0) := hB.cell 2
  have b3 : w.cell? ⟨B, 3, none⟩ = some (.int .i64 k) := hB.cell 3
  have i1 : (0 : Int) ≤ (k : Int) := by omega
  have i2 : (k : Int) ≤ (N : Int) := by omega
  have hNk : ¬ N = k := by omega
  have hNd : decide (N ≤ k) = false := by simp; omega
  have n1 := nil_ahead
  have n2 := method_read
  have n3 := neqNilNil30
  clear hS hB
  go_enter Ybad.func19, Ybad.ntmps19
  go_wp2
  go_quiet (fail)
  go_wp2
  refine wp_loop_rounds 1 ?_
  rw [rounds_succ]
  go_upto_region 9 with fail
  go_cut [3, 4] from 53 to 94 (fun a b wx => ∃ c' : Nat, a = .int .i64 c' ∧ b = .nilIface ∧ 1 ≤ c' ∧ k + c' ≤ n ∧ Hid (Src wx N D S U n c (k + c') z) ∧ Hid (Oth [S, U] w wx))
  case first =>
    clear b2 n3
    go_region_held3 (fun w' => w'.cell? ⟨B, 0, none⟩ = some (.slice (some ⟨U, 0, none⟩) N N) ∧ w'.cell? ⟨B, 1, none⟩ = some (.iface 24 (.pointer (some ⟨S, 0, none⟩))) ∧ w'.cell? ⟨B, 3, none⟩ = some (.int .i64 k)) (go_keep)
      ((go_at_call 38; refine (read_some N D S U n c k (N - k) z _ hn hc1 hc8 (by omega) (by omega) hk hDU hSU hDS (by exact HS.out.of_heap rfl)).mono ?_; rintro e w' ⟨⟨c', rfl, h1, h2, hS'⟩, hO⟩; have k0 : w'.cell? ⟨B, 0, none⟩ = some (.slice (some ⟨U, 0, none⟩) N N) := (hO.cell (by simp [hBS, hBU]) 0).trans b0; have k1 : w'.cell? ⟨B, 1, none⟩ = some (.iface 24 (.pointer (some ⟨S, 0, none⟩))) := (hO.cell (by simp [hBS, hBU]) 1).trans b1; have k3 : w'.cell? ⟨B, 3, none⟩ = some (.int .i64 k) := (hO.cell (by simp [hBS, hBU]) 3).trans b3))
    all_goals
      go_wp2_with fail
      go_meet
      exact ⟨c', rfl, rfl, h1, h2, hS', ⟨hO.os, hO.tape, hO.output, hO.size, hO.block⟩⟩
  case rest =>
    obtain ⟨c', rfl, rfl, h1, h2, HS2, HO⟩ := hcut
    have HB2 : Hid (Blk wc B (bufB N U S k .nilIface) 81) := HO.out.blk (by simp [hBS, hBU]) HB.out
    have d3 : wc.cell? ⟨B, 3, none⟩ = some (.int .i64 k) := HB2.out.cell 3
    have g3 := HB2.out.free 3
    clear b0 b1 b2 b3
    go_wp2
    refine bodyPost_ret (v := .tuple #[]) (by simp [results, Ybad.results19]) rfl ?_
    refine ⟨rfl, c', h1, h2, HS2.out.oth ((Oth.refl [B] wc).setCell (by simp) 3 _) (by simp [Ne.symm hBD]) (by simp [Ne.symm hBS]) (by simp [Ne.symm hBU]), ?_, ?_⟩
    · have h := HB2.out.set 3 (.int .i64 ((k : Int) + (c' : Int)))
      have e : (bufB N U S k .nilIface).setIfInBounds 3 (.int .i64 ((k : Int) + (c' : Int))) = bufB N U S (k + c') .nilIface := by simp [bufB]
      rw [e] at h
      exact h
    · exact (HO.out.mono (by simp)).trans ((Oth.refl [S, U, B] wc).setCell (by simp) 3 _)
end Go.Proofs.YbulkakoiDoor
