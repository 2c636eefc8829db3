import Derived.Test.YbulkakoiDoorPlain2
import Derived.Test.YbulkakoiDoorExact
import Derived.MapViews
import Derived.DeepKeys4
import Derived.WideKeyArgs
import Derived.Lib.SmallJoins
namespace Go.Proofs.YbulkakoiDoor
open Go.RowKit Go.Maps

theorem laidOutC : laidOutB Ybad.prog = true := by kernel_rfl
theorem row41 : (41 : TypeId) < Ybad.prog.types.size := of_decide_eq_true (by kernel_rfl)
theorem cells41 : Ybad.prog.cellsOf 41 = 2 := by kernel_rfl
theorem deep41 : Ybad.prog.keyTypeAt (Ybad.prog.types.size + 1) 41 = true := by kernel_rfl
theorem wide41 : (match Ybad.prog.underlying 41 with | some (.array _ _) | some (.struct _) => true | _ => false) = true := by rw [Ybad.underlying41]
set_option maxRecDepth 100000 in
theorem law41 : Keyed Ybad.prog 41 := Keyed.of_law (deep_law_laid laidOutC (m := 2) (by omega) row41 (by kernel_rfl) wide41)
theorem formed41 {c0 c1 : Value} : (Value.agg #[c0, c1]).formed Ybad.prog 41 = true := by simp [Value.formed, Ybad.underlying41, cells41]

/-- a tag as a key. -/
abbrev tagV (c n : Int) : Value := .agg #[.int .u8 c, .int .u32 n]

set_option maxRecDepth 100000 in
theorem key41 (c n : Int) (hc : (Lit.int .u8 c).wf = true) (hn : (Lit.int .u32 n).wf = true) : ∃ kl, keyOf Ybad.prog 41 (tagV c n) = some kl := by
  have h : DataW.Trod (H := Unit) (fun _ => ()) Ybad.prog default 0 (fun _ => true) true 41 (tagV c n) (.agg [.lit (.int .u8 c), .lit (.int .u32 n)]) [] := by
    have := Joins.shut_agg2 (enc := fun _ => ()) (w := default) (base := 0) (spare := fun _ => true) (held := true) (y0 := (.lit (.int .u8 c), [])) (y1 := (.lit (.int .u32 n), [])) Ybad.underlying41 (by kernel_rfl) cells41
      (v0 := .int .u8 c) (v1 := .int .u32 n) ⟨1, by simp [DataW.trod, Ybad.underlying38, hc]⟩ ⟨1, by simp [DataW.trod, Ybad.underlying39, hn]⟩
    simpa using this
  exact ⟨_, (keyOf_asKey deep41 wide41 formed41 h).1⟩

theorem zero49 (w : World) : (zeroValue 49).run Ybad.prog w = .ok (.slice none 0 0) w := by kernel_rfl

theorem neq49 (a : Addr) (n c : Nat) (w : World) : (binOp .neq 49 (.slice (some a) n c) (.slice none 0 0)).run Ybad.prog w = .ok (.bool true) w :=
  run_neq_slice_nil_any w 49 68 (some a) n c 0 0 Ybad.underlying49

/-- a route: nil, or a slice. -/
def IsRoute (v : Value) : Prop := v = .slice none 0 0 ∨ ∃ a n c, v = .slice (some a) n c

def notNil : Value → Bool
  | .slice none _ _ => false
  | _ => true

theorem IsRoute.neq {v : Value} (h : IsRoute v) (w : World) : (binOp .neq 49 v (.slice none 0 0)).run Ybad.prog w = .ok (.bool (notNil v)) w := by
  rcases h with rfl | ⟨a, n, c, rfl⟩
  · exact neq49_nil w
  · exact neq49 a n c w

set_option maxHeartbeats 1000000 in
/-- Route, the tag not a small context tag: the map is asked. -/
theorem route_map (tb M n s nc : Nat) (co : Option Addr) (m : Value → Option Value) (c num : Int) (w : World) (hn0 : 0 ≤ num) (hn1 : num ≤ 4294967295) (hno : ¬ (c = 2 ∧ num < nc)) (htb : tb < w.heap.size)
    (h8 : w.cell? ⟨tb, 8, none⟩ = some (.slice co nc nc)) (h9 : w.cell? ⟨tb, 9, none⟩ = some (.map (some M))) (hM : MapAt w Ybad.prog 41 M n s m) (kl : Lit) (hkl : keyOf Ybad.prog 41 (tagV c num) = some kl) :
    Calls Ybad.prog 16 #[.pointer (some ⟨tb, 0, none⟩), tagV c num] w fun e w' => e = .returned ((m (tagV c num)).getD (.slice none 0 0)) ∧ Below w.heap.size w w' := by
  have hl : ∀ q, (Instr.lookup 53 (.map (some M)) (.agg #[.int .u8 c, .int .u32 num]) false).run Ybad.prog ((w.alloc (.cells #[.int .u8 c, .int .u32 num] 41)).drewN q) = .ok ((m (tagV c num)).getD (.slice none 0 0)) ((w.alloc (.cells #[.int .u8 c, .int .u32 num] 41)).drewN q) := fun q =>
    (hM.of_block (w' := (w.alloc (.cells #[.int .u8 c, .int .u32 num] 41)).drewN q) (Below.heap_alloc w _ M hM.lt)).look law41 Ybad.underlying53 (zero49 _) hkl
  generalize (m (tagV c num)).getD (.slice none 0 0) = rv at hl ⊢
  clear hM hkl
  by_cases h2 : c = 2
  · have hc2 : (c == 2) = true := by simp [h2]
    have hge : ¬ num < (nc : Int) := fun h => hno ⟨h2, h⟩
    have hd : decide (num < (nc : Int)) = false := by simpa using hge
    clear h2 hno
    go_enter Ybad.func16, Ybad.ntmps16
    go_wp2
    go_quiet (fail)
    go_wp2
    go_ret
    exact ⟨rfl, below_drewN ((Below.refl _ _).alloc (Nat.le_refl _) _) _⟩
  · have hc2 : (c == 2) = false := by simp [h2]
    clear h2 hno
    go_enter Ybad.func16, Ybad.ntmps16
    go_wp2
    go_quiet (fail)
    go_wp2
    go_ret
    exact ⟨rfl, below_drewN ((Below.refl _ _).alloc (Nat.le_refl _) _) _⟩

set_option maxHeartbeats 1000000 in
/-- Route of a small context tag: the table is asked. -/
theorem route_ctx (tb CR nc num : Nat) (rv : Value) (w : World) (hnc : nc ≤ 1024) (hlt : num < nc) (htb : tb < w.heap.size) (hcr : CR < w.heap.size)
    (h8 : w.cell? ⟨tb, 8, none⟩ = some (.slice (some ⟨CR, 0, none⟩) nc nc)) (hc : w.cell? ⟨CR, num, none⟩ = some rv) (h1 : IsRoute rv) :
    Calls Ybad.prog 16 #[.pointer (some ⟨tb, 0, none⟩), tagV 2 num] w fun e w' => e = .returned rv ∧ Below w.heap.size w w' := by
  have i1 : (num : Int) < (nc : Int) := by omega
  rcases h1 with rfl | ⟨a, n, c, rfl⟩
  all_goals
    go_enter Ybad.func16, Ybad.ntmps16
    go_wp2
    go_ret
    exact ⟨rfl, (Below.refl _ _).alloc (Nat.le_refl _) _⟩

set_option maxHeartbeats 1000000 in
/-- Match of a CHOICE, by what Route answers. -/
theorem match_choice (tb : Nat) (c num : Int) (rv : Value) (w : World) (htb : tb < w.heap.size) (hk : w.cell? ⟨tb, 1, none⟩ = some (.int .u8 12)) (hrv : IsRoute rv)
    (hr : ∀ O : Obj, Calls Ybad.prog 16 #[.pointer (some ⟨tb, 0, none⟩), tagV c num] (w.alloc O) fun e w' => e = .returned rv ∧ Below (w.heap.size + 1) (w.alloc O) w') :
    Calls Ybad.prog 11 #[.pointer (some ⟨tb, 0, none⟩), tagV c num] w fun e w' => e = .returned (.tuple #[rv, .bool (notNil rv)]) ∧ Below w.heap.size w w' := by
  have hq1 := neq49_nil
  have hq2 := neq49
  have HR : Hid (∀ O : Obj, Calls Ybad.prog 16 #[.pointer (some ⟨tb, 0, none⟩), tagV c num] (w.alloc O) fun e w' => e = .returned rv ∧ Below (w.heap.size + 1) (w.alloc O) w') := hr
  clear hr
  rcases hrv with rfl | ⟨a, n, cc, rfl⟩
  all_goals
    go_enter Ybad.func11, Ybad.ntmps11
    go_wp2_with fail
    refine (HR.out _).mono ?_
    rintro e w1 ⟨rfl, hb⟩
    go_wp2
    go_ret2
    exact ⟨rfl, ((Below.refl _ _).alloc (Nat.le_refl _) _).trans (hb.mono (by omega))⟩
end Go.Proofs.YbulkakoiDoor
