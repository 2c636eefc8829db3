import Derived.Test.YbulkakmsCCmp
namespace Go.Proofs.Ybulkakms
open Go.RowKit

def cmpV (x y : Vc) : Int := orI (cmpI x.a y.a) (cmpI x.b y.b)

theorem cmpV_lt (x y : Vc) : decide (cmpV x y < 0) = x.lt y.a y.b := by
  rw [Bool.eq_iff_iff]
  simp only [Vc.lt, decide_eq_true_eq, Bool.or_eq_true, Bool.and_eq_true]
  unfold cmpV orI cmpI
  repeat' split
  all_goals omega

theorem cmpV_eq (x y : Vc) : decide (cmpV x y = 0) = x.is y.a y.b := by
  rw [Bool.eq_iff_iff]
  simp only [Vc.is, decide_eq_true_eq, Bool.and_eq_true]
  unfold cmpV orI cmpI
  repeat' split
  all_goals omega

set_option maxHeartbeats 2000000 in
set_option maxRecDepth 100000 in
theorem ver_any (x y : Vc) (w : World) : Calls Yba.prog 24 #[.agg x.v, .agg y.v] w fun e w' => e = .returned (.int .i64 (cmpV x y)) ∧ Below w.heap.size w w' := by
  obtain ⟨a, b, n⟩ := x
  obtain ⟨c, d, m⟩ := y
  simp only [Vc.v, cmpV]
  go_enter Yba.func24, Yba.ntmps24
  go_upto_region 1 with fail
  have hB : Hid (Below w.heap.size w ((w.alloc (.cells #[.int .u16 a, .int .u16 b, .int .i64 n] 66)).alloc (.cells #[.int .u16 c, .int .u16 d, .int .i64 m] 66))) := ((Below.refl _ _).alloc (Nat.le_refl _) _).alloc (by simp) _
  have l0 : ((w.alloc (.cells #[.int .u16 a, .int .u16 b, .int .i64 n] 66)).alloc (.cells #[.int .u16 c, .int .u16 d, .int .i64 m] 66)).heap[w.heap.size]? = some (.cells #[.int .u16 a, .int .u16 b, .int .i64 n] 66) := (Below.heap_alloc _ _ _ (by simp)).trans (heap_alloc_new w _)
  have l1 : ((w.alloc (.cells #[.int .u16 a, .int .u16 b, .int .i64 n] 66)).alloc (.cells #[.int .u16 c, .int .u16 d, .int .i64 m] 66)).heap[w.heap.size + 1]? = some (.cells #[.int .u16 c, .int .u16 d, .int .i64 m] 66) := by
    have := heap_alloc_new (w.alloc (.cells #[.int .u16 a, .int .u16 b, .int .i64 n] 66)) (.cells #[.int .u16 c, .int .u16 d, .int .i64 m] 66)
    simpa using this
  generalize ((w.alloc (.cells #[.int .u16 a, .int .u16 b, .int .i64 n] 66)).alloc (.cells #[.int .u16 c, .int .u16 d, .int .i64 m] 66)) = W at hB l0 l1 ⊢
  generalize w.heap.size + 1 = A1 at l1 ⊢
  have hl0 := (Array.getElem?_eq_some_iff.1 l0).1
  have hl1 := (Array.getElem?_eq_some_iff.1 l1).1
  obtain ⟨A0, hA0⟩ : ∃ A0, A0 = w.heap.size := ⟨_, rfl⟩
  have HA0 : Hid (A0 = w.heap.size) := hA0
  rw [← hA0] at l0 hl0 ⊢
  clear hA0
  have S0 : W.cell? ⟨A0, 0, none⟩ = some (.int .u16 a) ∧ W.cell? ⟨A0, 1, none⟩ = some (.int .u16 b) ∧ W.cell? ⟨A1, 0, none⟩ = some (.int .u16 c) ∧ W.cell? ⟨A1, 1, none⟩ = some (.int .u16 d) :=
    ⟨(cell_of_row _ _ _ _ _ _ l0).trans rfl, (cell_of_row _ _ _ _ _ _ l0).trans rfl, (cell_of_row _ _ _ _ _ _ l1).trans rfl, (cell_of_row _ _ _ _ _ _ l1).trans rfl⟩
  go_region_held3 (fun w' => w'.cell? ⟨A0, 0, none⟩ = some (.int .u16 a) ∧ w'.cell? ⟨A0, 1, none⟩ = some (.int .u16 b) ∧ w'.cell? ⟨A1, 0, none⟩ = some (.int .u16 c) ∧ w'.cell? ⟨A1, 1, none⟩ = some (.int .u16 d)) (first | assumption | go_keep)
    (first
      | (go_at_call 27
         refine (cmp_any _ _ _).mono ?_
         rintro e w1 ⟨rfl, rfl⟩)
      | (go_at_call 26
         refine (or_any _ (cmpI a c) (cmpI b d) _ (World.cell?_alloc_at _ _ _ _ rfl) (World.cell?_alloc_at _ _ _ _ rfl)).mono ?_
         rintro e w1 ⟨rfl, rfl⟩))
  all_goals
    go_wp2
    go_ret
    exact ⟨rfl, (hB.out.alloc hB.out.size _).drew⟩
end Go.Proofs.Ybulkakms
