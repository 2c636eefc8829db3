import Derived.Test.YbulkakmsARow
namespace Go.Proofs.Ybulkakms
open Go.RowKit

/-- the two tell the same. -/
def DS.like (y x : DS) : Bool := ((nmS y.nm).toList == (nmS x.nm).toList) && (y.par == x.par)
def DS.onto (y x : DS) : DS := { y with l := x.l, rn := x.rn }

/-- a part's spans, taken in behind those learnt before. -/
def mergeL (b p : List DS) : List DS :=
  match p with
  | [] => b
  | x :: r => match b.getLast? with
    | none => x :: r
    | some y => if y.like x then b.dropLast ++ [y.onto x] ++ r else b ++ x :: r

theorem mergeL_nil (p : List DS) : mergeL [] p = p := by
  cases p <;> rfl

theorem mergeL_like (c : List DS) (y x : DS) (r : List DS) (h : y.like x = true) : mergeL (c ++ [y]) (x :: r) = c ++ [y.onto x] ++ r := by
  simp [mergeL, h]

theorem mergeL_other (c : List DS) (y x : DS) (r : List DS) (h : y.like x = false) : mergeL (c ++ [y]) (x :: r) = c ++ [y] ++ x :: r := by
  simp [mergeL, h]

theorem mergeL_ne (b p : List DS) (hp : p ≠ []) : mergeL b p ≠ [] := by
  cases p with
  | nil => exact absurd rfl hp
  | cons x r =>
    rcases List.eq_nil_or_concat b with rfl | ⟨c, y, rfl⟩
    · rw [mergeL_nil]; simp
    · rw [List.concat_eq_append]
      cases h : y.like x
      · rw [mergeL_other c y x r h]; simp
      · rw [mergeL_like c y x r h]; simp

theorem mergeL_len (b p : List DS) : (mergeL b p).length ≤ b.length + p.length := by
  cases p with
  | nil => simp [mergeL]
  | cons x r =>
    rcases List.eq_nil_or_concat b with rfl | ⟨c, y, rfl⟩
    · rw [mergeL_nil]; simp
    · rw [List.concat_eq_append]
      cases h : y.like x
      · rw [mergeL_other c y x r h]; simp; omega
      · rw [mergeL_like c y x r h]; simp only [List.length_append, List.length_cons, List.length_nil]; omega

/-- one cell of a row that is owned, set anew. -/
theorem owns_set {w : World} {base e size n g cap j : Nat} {xs : List Value} (h : w.ownsRow base e size (.slice (some ⟨g, 0, none⟩) n cap) n xs) (u : Value) :
    (w.setCell ⟨g, j, none⟩ u).ownsRow base e size (.slice (some ⟨g, 0, none⟩) n cap) n (xs.set j u) := by
  obtain ⟨hl, h0 | ⟨g', cap', cur, hv, hb, hh, h1, h2, h3, h4⟩⟩ := h
  · cases h0.1
  · injection hv with hv1 hv2 hv3
    injection hv1 with hv1
    injection hv1 with hv1 _ _
    subst hv1 hv3
    refine ⟨by simpa using hl, .inr ⟨g, cap, cur.setIfInBounds j u, rfl, hb, ?_, h1, h2, by simpa using h3, ?_⟩⟩
    · simp [World.setCell, Array.getElem?_modify, hh]
    · rw [Array.toList_setIfInBounds, ← h4]
      exact (List.take_set ..).symm ▸ rfl

theorem flat_onto (c : List DS) (y x : DS) : ((flat (c ++ [y])).set (c.length * 7 + 1) (.int .i64 x.l)).set (c.length * 7 + 6) (.bool x.rn) = flat (c ++ [y.onto x]) := by
  have hl := flat_length c
  have e : ∀ z : DS, flat [z] = z.v.toList := fun z => by simp [flat]
  rw [flat_append, flat_append, e, e, List.set_append_right _ _ (by omega), List.set_append_right _ _ (by omega), hl]
  simp [DS.v, DS.onto]
end Go.Proofs.Ybulkakms
