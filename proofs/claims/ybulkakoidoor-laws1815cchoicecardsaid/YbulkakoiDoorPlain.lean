import Derived.Test.YbulkakoiDoorProg
import Derived.WalkKit
import Derived.WalkSpells
import Derived.WalkSmall
import Derived.Deep.QuietTactic
import Derived.BigQuiet
import Derived.Deep.RegionWith
namespace Go.Proofs.YbulkakoiDoor
open Go.RowKit

/-- the universal tag number of a kind, as the law's own switch has it. -/
def tagN (k : Nat) : Int :=
  match k with
  | 1 => 2 | 2 => 10 | 3 => 1 | 4 => 5 | 5 => 4 | 6 => 3 | 7 => 22 | 8 => 12 | 9 => 16 | 10 => 17 | 11 => 16 | 13 => 6 | 14 => 17 | _ => 0

set_option maxHeartbeats 1000000 in
theorem ctag_any (k : Nat) (hk : k < 16) (w : World) : Calls Ybad.prog 12 #[.int .u8 k] w fun e w' => e = .returned (.int .u32 (tagN k)) ∧ w' = w := by
  have h : ∀ k : Nat, k < 16 → k = 0 ∨ k = 1 ∨ k = 2 ∨ k = 3 ∨ k = 4 ∨ k = 5 ∨ k = 6 ∨ k = 7 ∨ k = 8 ∨ k = 9 ∨ k = 10 ∨ k = 11 ∨ k = 12 ∨ k = 13 ∨ k = 14 ∨ k = 15 := by omega
  rcases h k hk with rfl | rfl | rfl | rfl | rfl | rfl | rfl | rfl | rfl | rfl | rfl | rfl | rfl | rfl | rfl | rfl
  all_goals
    clear h hk
    go_enter Ybad.func12, Ybad.ntmps12
    go_wp2
    go_ret
    exact ⟨rfl, rfl⟩

theorem tag_any (tb k : Nat) (t : Int) (w : World) (hk16 : k < 16) (htb : tb < w.heap.size) (h3 : 3 < w.heap.size) (hk : w.cell? ⟨tb, 1, none⟩ = some (.int .u8 k)) (ht : w.cell? ⟨3, k * 4 + 1, none⟩ = some (.int .u32 t)) :
    Calls Ybad.prog 17 #[.pointer (some ⟨tb, 0, none⟩)] w fun e w' => e = .returned (.agg #[.int .u8 0, .int .u32 t]) ∧ w' = w.alloc (.cells #[.int .u8 0, .int .u32 t] 41) := by
  go_enter Ybad.func17, Ybad.ntmps17
  go_wp2
  exact bodyPost_ret (v := .agg #[.int .u8 0, .int .u32 t]) (by simp [results, Ybad.results17, go_sem]) rfl ⟨rfl, rfl⟩

theorem eql41 (a b c d : Int) (w : World) : (binOp .eql 41 (.agg #[.int .u8 a, .int .u32 b]) (.agg #[.int .u8 c, .int .u32 d])).run Ybad.prog w = .ok (.bool (a == c && b == d)) w := by
  have hS : Ybad.prog.underlying 41 = some (.struct (Ybad.prog.fieldsOf 41)) := by kernel_rfl
  have hp : Ybad.prog.stoodInHeld 41 = false := by kernel_rfl
  have u1 := Ybad.underlying38
  have u2 := Ybad.underlying39
  rw [run_eql_struct, show (10000 : Nat) = 9999 + 1 from rfl, run_equalIn_agg w 9999 41 _ _ hS hp]
  simp only [Program.fieldsOf, Ybad.underlying41]
  go_simp
  by_cases h1 : a = c <;> by_cases h2 : b = d <;> simp [h1, h2]

set_option maxHeartbeats 1000000 in
theorem match_plain (tb k : Nat) (t c num : Int) (w : World) (hk16 : k < 16) (h12 : ((k : Int) == 12) = false) (h15 : ((k : Int) == 15) = false) (htb : tb < w.heap.size) (h3 : 3 < w.heap.size) (hk : w.cell? ⟨tb, 1, none⟩ = some (.int .u8 k)) (ht : w.cell? ⟨3, k * 4 + 1, none⟩ = some (.int .u32 t)) :
    Calls Ybad.prog 11 #[.pointer (some ⟨tb, 0, none⟩), .agg #[.int .u8 c, .int .u32 num]] w fun e w' => e = .returned (.tuple #[.slice none 0 0, .bool (c == 0 && num == t)]) ∧ Below w.heap.size w w' := by
  have heq := eql41
  go_enter Ybad.func11, Ybad.ntmps11
  go_wp2
  go_region_with (go_at_call 17; refine (tag_any tb k t _ hk16 (by simp; omega) (by simp; omega) (by simp [hk, World.cell?_alloc_past, htb]) (by simp [ht, World.cell?_alloc_past, h3])).mono ?_; rintro e w' ⟨rfl, rfl⟩)
  all_goals
    go_wp2
    go_ret2
    exact ⟨rfl, (((Below.refl _ _).alloc (Nat.le_refl _) _).alloc (by simp) _).drew⟩

theorem match_any (tb k : Nat) (c num : Int) (w : World) (h12 : ((k : Int) == 12) = false) (h15 : ((k : Int) == 15) = true) (htb : tb < w.heap.size) (hk : w.cell? ⟨tb, 1, none⟩ = some (.int .u8 k)) :
    Calls Ybad.prog 11 #[.pointer (some ⟨tb, 0, none⟩), .agg #[.int .u8 c, .int .u32 num]] w fun e w' => e = .returned (.tuple #[.slice none 0 0, .bool true]) ∧ Below w.heap.size w w' := by
  go_enter Ybad.func11, Ybad.ntmps11
  go_wp2
  go_ret2
  exact ⟨rfl, ((Below.refl _ _).alloc (Nat.le_refl _) _)⟩

theorem look53_nil (c num : Int) (w : World) : (Instr.lookup 53 (.map none) (.agg #[.int .u8 c, .int .u32 num]) false).run Ybad.prog w = .ok (.slice none 0 0) w := by kernel_rfl

set_option maxHeartbeats 1000000 in
/-- Route of a type with no routes at all. -/
theorem route_none (tb : Nat) (c num : Int) (w : World) (hn0 : 0 ≤ num) (hn1 : num ≤ 4294967295) (htb : tb < w.heap.size) (hc : w.cell? ⟨tb, 8, none⟩ = some (.slice none 0 0)) (hr : w.cell? ⟨tb, 9, none⟩ = some (.map none)) :
    Calls Ybad.prog 16 #[.pointer (some ⟨tb, 0, none⟩), .agg #[.int .u8 c, .int .u32 num]] w fun e w' => e = .returned (.slice none 0 0) ∧ Below w.heap.size w w' := by
  have hl := look53_nil c num
  by_cases h2 : c = 2
  · have hc2 : (c == 2) = true := by simp [h2]
    clear h2
    go_enter Ybad.func16, Ybad.ntmps16
    go_wp2
    go_quiet (fail)
    go_wp2
    go_ret
    exact ⟨rfl, below_drewN ((Below.refl _ _).alloc (Nat.le_refl _) _) _⟩
  · have hc2 : (c == 2) = false := by simp [h2]
    clear h2
    go_enter Ybad.func16, Ybad.ntmps16
    go_wp2
    go_quiet (fail)
    go_wp2
    go_ret
    exact ⟨rfl, below_drewN ((Below.refl _ _).alloc (Nat.le_refl _) _) _⟩
end Go.Proofs.YbulkakoiDoor
