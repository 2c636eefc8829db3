import Derived.Test.YbulkaknuMath
import Derived.WalkKit
import Derived.WalkSmall
namespace Go.Proofs.Ybulkaknu
open Go.RowKit

/-- BLOCK b HOLDS, FROM ITS HEAD ON, THE n VALUES v, none of them frozen. -/
structure Tab (w : World) (b n : Nat) (v : Nat → Value) : Prop where
  cell : ∀ i, i < n → w.cell? ⟨b, i, none⟩ = some (v i)
  free : ∀ i, i < n → w.frozen? ⟨b, i, none⟩ = false

theorem Tab.set {w : World} {b n : Nat} {v : Nat → Value} (h : Tab w b n v) (j : Nat) (u : Value) {v' : Nat → Value} (hj : v' j = u) (hne : ∀ i, i ≠ j → v' i = v i) :
    Tab (w.setCell ⟨b, j, none⟩ u) b n v' := by
  refine ⟨?_, ?_⟩
  · intro i hi
    by_cases e : i = j
    · subst e
      rw [World.cell?_setCell_same _ _ _ (h.cell i hi), hj]
    · rw [World.cell?_setCell_other _ _ _ _ (by intro e2; injection e2 with _ e3; exact e e3.symm), h.cell i hi, hne i e]
  · intro i hi
    rw [World.frozen?_setCell]
    exact h.free i hi

theorem Tab.setOther {w : World} {b n : Nat} {v : Nat → Value} (h : Tab w b n v) {a : Addr} (ha : a.block ≠ b) (u : Value) : Tab (w.setCell a u) b n v := by
  refine ⟨?_, ?_⟩
  · intro i hi
    rw [World.cell?_setCell_other _ _ _ _ (by intro e2; subst e2; exact ha rfl)]
    exact h.cell i hi
  · intro i hi
    rw [World.frozen?_setCell]
    exact h.free i hi

theorem Tab.below {B : Nat} {w w' : World} {b n : Nat} {v : Nat → Value} (h : Tab w b n v) (hb : Below B w w') (hB : b < B) : Tab w' b n v :=
  ⟨fun i hi => (hb.cell (p := ⟨b, i, none⟩) hB).trans (h.cell i hi), fun i hi => (hb.frozen (p := ⟨b, i, none⟩) hB).trans (h.free i hi)⟩

theorem Tab.congr {w : World} {b n : Nat} {v v' : Nat → Value} (h : Tab w b n v) (e : ∀ i, i < n → v i = v' i) : Tab w b n v' :=
  ⟨fun i hi => by rw [h.cell i hi, e i hi], h.free⟩

/-- a row that was just made. -/
theorem Tab.made {w : World} {base e g n cap : Nat} {z : Value} (h : w.ownsRow base e 1 (.slice (some ⟨g, 0, none⟩) n cap) n (madeCells #[z] (n * 1)).toList) : Tab w g n (fun _ => z) := by
  refine ⟨?_, ?_⟩
  · intro i hi
    rw [h.cellAt i (by omega), Nat.mul_one, toList_madeCells_one]
    simp [hi]
  · intro i _
    exact h.frozenAt i

theorem Tab.drew {w : World} {b n : Nat} {v : Nat → Value} (h : Tab w b n v) : Tab w.drew b n v := ⟨h.cell, h.free⟩

theorem Tab.drewN {w : World} {b n : Nat} {v : Nat → Value} (h : Tab w b n v) (k : Nat) : Tab (w.drewN k) b n v := ⟨h.cell, h.free⟩

/-- a row that is owned lies in the heap. -/
theorem owns_lt {w : World} {base e size g n cap : Nat} {m : Nat} {xs : List Value} (h : w.ownsRow base e size (.slice (some ⟨g, 0, none⟩) n cap) m xs) : g < w.heap.size := by
  obtain ⟨_, h | ⟨g', cap', cur, h1, _, h2, _⟩⟩ := h
  · cases h.1
  · injection h1 with h1 _ _
    injection h1 with h1
    injection h1 with h1 _ _
    subst h1
    exact (Array.getElem?_eq_some_iff.1 h2).1

/-- the law's own table: 'int(uint(v) % uint(n))'. -/
theorem via_ex (n : Nat) (z : Nat → Int) (hn : n ≤ 1024) : ∃ f : Nat → Nat, (∀ x, x < n → f x < n) ∧ ∀ k, k < n → wrap64 ((IntKind.u64.wrap (z k)).tmod (n : Int)) = (f k : Int) := by
  refine ⟨fun k => ((IntKind.u64.wrap (z k)) % (n : Int)).toNat, ?_, ?_⟩
  · intro x hx
    have h1 := Int.emod_lt_of_pos (IntKind.u64.wrap (z x)) (show (0 : Int) < (n : Int) from by omega)
    have h2 := Int.emod_nonneg (IntKind.u64.wrap (z x)) (show (n : Int) ≠ 0 from by omega)
    show (IntKind.u64.wrap (z x) % (n : Int)).toNat < n
    omega
  · intro k hk
    have h0 : 0 ≤ IntKind.u64.wrap (z k) := by rw [IntKind.wrap_u64]; omega
    have h1 := Int.emod_lt_of_pos (IntKind.u64.wrap (z k)) (show (0 : Int) < (n : Int) from by omega)
    have h2 := Int.emod_nonneg (IntKind.u64.wrap (z k)) (show (n : Int) ≠ 0 from by omega)
    rw [Int.tmod_eq_emod_of_nonneg h0]
    show _ = (((IntKind.u64.wrap (z k) % (n : Int)).toNat : Nat) : Int)
    rw [IntWalk.wrap64_in _ ⟨by omega, by omega⟩]
    omega
end Go.Proofs.Ybulkaknu
