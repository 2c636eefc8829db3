import Derived.Test.YbulkakoiDoorRows
import Derived.Test.YbulkakoiDoorPlain
import Derived.ProofKit
import Derived.LaidMore
import Derived.OpenShut
import Derived.Stop.Joined
import Derived.Lib.SmallJoins
namespace Go.Proofs.YbulkakoiDoor
open Go.ChangeShapes Go.WideShapes Go.ChangeAt Go.WideMaps Go.WideElems Go.RowKit

theorem own : ownKnob Ybad.prog.godebug = none := by kernel_rfl
theorem laidOut : laidOutB Ybad.prog = true := by kernel_rfl

/-- the table's name, as the row has it. -/
def kindsName : String := Rows.lawS1815CPlainSpec.vars.headD ""
theorem gKinds : Ybad.prog.globalNamed kindsName = some 3 := by kernel_rfl
theorem tKinds : (Ybad.prog.globals[3]?).map (·.type) = some 90 := by kernel_rfl
theorem cells89 : Ybad.prog.cellsOf 89 = 4 := by kernel_rfl
theorem cells39 : Ybad.prog.cellsOf 39 = 1 := by kernel_rfl

theorem kinds_cells {W : World} (h : laidMetH Ybad.prog Rows.lawS1815CPlainRow.laid W) : 3 < W.heap.size ∧ ∀ j : Nat, j < 16 → W.cell? ⟨3, j * 4 + 1, none⟩ = some (.int .u32 (tagN j)) := by
  rw [MakeChecks.laidMetH_plain _ _ _ (by kernel_rfl)] at h
  obtain ⟨ps, ⟨g0, t0, cs0, f0, p0, q0, hg0, ht0, hv0, hd0, _, _⟩, _, _⟩ := h
  have hg0' : Ybad.prog.globalNamed kindsName = some g0 := hg0
  obtain rfl := Option.some.inj (gKinds.symm.trans hg0')
  obtain rfl := Option.some.inj (tKinds.symm.trans ht0)
  have hv : ∀ i, W.cell? ⟨3, i, none⟩ = cs0[i]? := fun i => World.var?_cell hg0 hv0 i
  obtain ⟨xs, m, rfl, hx, hlen, hn, hel⟩ := DataW.trod_array Ybad.underlying90 hd0
  rw [cells89] at hel
  simp only [Prod.mk.injEq, Rows.laid_example_com_tollbook_tollbook_internal_dict_kinds, DataW.agg.injEq] at hx
  have hall : ∀ j : Nat, j < 16 → W.cell? ⟨3, j * 4 + 1, none⟩ = some (.int .u32 (tagN j)) := by
    intro j hj
    have hj' : j < xs.length := by omega
    have he := hel j hj
    rw [List.getElem?_eq_getElem hj'] at he
    obtain ⟨y0, y1, y2, y3, n, hy, _, _, h1, _, _⟩ := Joins.trod_struct4 Ybad.underlying89 he
    rw [cells39] at h1
    obtain ⟨k, hk, rfl, _⟩ := DataW.trod_int Ybad.underlying39 h1
    have hc : cs0[j * 4 + 1]? = some (.int .u32 k) := by
      have h0 := congrArg (fun l : List Value => l[0]?) hk
      simp only [List.getElem?_take, List.getElem?_drop, Array.getElem?_toList] at h0
      simpa using h0
    rw [hv, hc]
    have hxj : (xs.map (·.1))[j]? = some xs[j].1 := by simp [List.getElem?_eq_getElem hj']
    rw [← hx.1, hy] at hxj
    have hcases : j = 0 ∨ j = 1 ∨ j = 2 ∨ j = 3 ∨ j = 4 ∨ j = 5 ∨ j = 6 ∨ j = 7 ∨ j = 8 ∨ j = 9 ∨ j = 10 ∨ j = 11 ∨ j = 12 ∨ j = 13 ∨ j = 14 ∨ j = 15 := by omega
    have hk2 : k = tagN j := by
      clear hc hk h1 he hel hx hd0 hv0 hy hj' hv
      rcases hcases with rfl | rfl | rfl | rfl | rfl | rfl | rfl | rfl | rfl | rfl | rfl | rfl | rfl | rfl | rfl | rfl
      all_goals
        simp at hxj
        first
          | exact hxj.2.1.symm
          | exact hxj.1.symm
    rw [hk2]
  refine ⟨?_, hall⟩
  exact World.block_lt_of_cell? W _ (hall 0 (by decide))
end Go.Proofs.YbulkakoiDoor
