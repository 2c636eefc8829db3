import Derived.Test.YbulkakmsASpan
import Derived.Maps.AppendAt
namespace Go.Proofs.Ybulkakms
open Go.RowKit

/-- the cells of a row of dirSpans. -/
def flat (l : List DS) : List Value := l.flatMap fun d => d.v.toList

theorem flat_length (l : List DS) : (flat l).length = l.length * 7 := by
  induction l with
  | nil => rfl
  | cons a r ih => simp only [flat, List.flatMap_cons, List.length_append, List.length_cons] at *; rw [ih]; simp [DS.v]; omega

theorem flat_append (a b : List DS) : flat (a ++ b) = flat a ++ flat b := by simp [flat]

theorem flat_get (l : List DS) (i k : Nat) (hi : i < l.length) (hk : k < 7) : (flat l)[i * 7 + k]? = (l[i]).v[k]? := by
  induction l generalizing i with
  | nil => simp at hi
  | cons a r ih =>
    have hv : a.v.toList.length = 7 := rfl
    have e : flat (a :: r) = a.v.toList ++ flat r := rfl
    rw [e]
    cases i with
    | zero =>
      rw [List.getElem?_append_left (by rw [hv]; omega)]
      simp
    | succ i =>
      rw [List.getElem?_append_right (by rw [hv]; omega), hv]
      have : (i + 1) * 7 + k - 7 = i * 7 + k := by omega
      rw [this, ih i (by simpa using hi)]
      rfl

/-- v is a slice that reads as l. -/
def Seen (w : World) (v : Value) (l : List DS) : Prop :=
  ∃ a c, v = .slice a l.length c ∧ (0 < l.length → ∃ g off, a = some ⟨g, off, none⟩ ∧ g < w.heap.size ∧ ∀ i (hi : i < l.length), ∀ k, k < 7 → w.cell? ⟨g, off + i * 7 + k, none⟩ = (l[i]).v[k]?)

theorem Seen.of_owns {w : World} {base : Nat} {v : Value} {l : List DS} (h : w.ownsRow base 35 7 v l.length (flat l)) : Seen w v l := by
  have h' := h
  obtain ⟨hl, h0 | ⟨g, cap, cur, rfl, hb, hh, hnc, hcm, hcs, ht⟩⟩ := h
  · obtain ⟨rfl, h0⟩ := h0
    exact ⟨none, 0, by rw [h0], fun hp => by omega⟩
  · refine ⟨_, _, rfl, fun hp => ⟨g, 0, rfl, (Array.getElem?_eq_some_iff.1 hh).1, fun i hi k hk => ?_⟩⟩
    have e : 0 + i * 7 + k = i * 7 + k := by omega
    rw [e, ← flat_get l i k hi hk]
    exact h'.cellAt (i * 7 + k) (by omega)

theorem Seen.kept {w w' : World} {v : Value} {l : List DS} (h : Seen w v l) (hk : ∀ g off c, v = .slice (some ⟨g, off, none⟩) l.length c → 0 < l.length → g < w.heap.size → w'.heap[g]? = w.heap[g]?) (hs : w.heap.size ≤ w'.heap.size) : Seen w' v l := by
  obtain ⟨a, c, rfl, h1⟩ := h
  refine ⟨a, c, rfl, fun hp => ?_⟩
  obtain ⟨g, off, rfl, hg, hc⟩ := h1 hp
  exact ⟨g, off, rfl, by omega, fun i hi k hk7 => (World.cell?_of_block (w := w) (a := ⟨g, _, none⟩) (hk g off c rfl hp hg)).trans (hc i hi k hk7)⟩

theorem Seen.tail {w : World} {n c : Nat} {x : DS} {l : List DS} {g off : Nat} (h : Seen w (.slice (some ⟨g, off, none⟩) n c) (x :: l)) (c' : Nat) : Seen w (.slice (some ⟨g, off + 7, none⟩) l.length c') l := by
  obtain ⟨a, c, e, h1⟩ := h
  injection e with e1 e2 e3
  refine ⟨_, _, rfl, fun hp => ?_⟩
  obtain ⟨g', off', e4, hg, hc⟩ := h1 (by simp)
  rw [e4] at e1
  injection e1 with e1
  injection e1 with e5 e6 _
  subst e5 e6
  refine ⟨g, off + 7, rfl, hg, fun i hi k hk => ?_⟩
  have := hc (i + 1) (by simp; omega) k hk
  rw [show off + 7 + i * 7 + k = off + (i + 1) * 7 + k from by omega, this]
  rfl
end Go.Proofs.Ybulkakms
