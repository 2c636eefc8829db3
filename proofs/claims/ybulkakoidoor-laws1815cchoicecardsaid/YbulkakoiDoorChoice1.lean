import Derived.Test.YbulkakoiDoorChoice0
import Derived.Deep.LoopGhost
namespace Go.Proofs.YbulkakoiDoor
open Go.RowKit Go.Maps

/-- the last of the first i keys that makes this tag. -/
def lastK (kc kn : Nat → Int) (c n : Int) : Nat → Option Nat
  | 0 => none
  | i + 1 => if kc i % 4 = c ∧ kn i = n then some i else lastK kc kn c n i

theorem lastK_lt {kc kn : Nat → Int} {c n : Int} : ∀ {i j : Nat}, lastK kc kn c n i = some j → j < i ∧ kc j % 4 = c ∧ kn j = n
  | 0, j, h => by cases h
  | i + 1, j, h => by
    unfold lastK at h
    split at h
    · cases h; rename_i hh; exact ⟨by omega, hh⟩
    · have := lastK_lt h; exact ⟨by omega, this.2⟩

theorem lastK_none {kc kn : Nat → Int} {c n : Int} : ∀ {i : Nat}, lastK kc kn c n i = none → ∀ j, j < i → ¬ (kc j % 4 = c ∧ kn j = n)
  | 0, _, j, hj => by omega
  | i + 1, h, j, hj => by
    unfold lastK at h
    split at h
    · cases h
    · rename_i hh
      by_cases e : j = i
      · subst e; exact hh
      · exact lastK_none h j (by omega)

/-- it is the last. -/
theorem lastK_is {kc kn : Nat → Int} {c n : Int} : ∀ {i j : Nat}, j < i → kc j % 4 = c → kn j = n → (∀ l, j < l → l < i → ¬ (kc l % 4 = c ∧ kn l = n)) → lastK kc kn c n i = some j
  | 0, j, h, _, _, _ => by omega
  | i + 1, j, h, h1, h2, h3 => by
    unfold lastK
    by_cases e : j = i
    · subst e; rw [if_pos ⟨h1, h2⟩]
    · rw [if_neg (h3 i (by omega) (by omega))]
      exact lastK_is (by omega) h1 h2 (fun l a b => h3 l a (by omega))

theorem lastK_no {kc kn : Nat → Int} {c n : Int} : ∀ {i : Nat}, (∀ l, l < i → ¬ (kc l % 4 = c ∧ kn l = n)) → lastK kc kn c n i = none
  | 0, _ => rfl
  | i + 1, h => by
    unfold lastK
    rw [if_neg (h i (by omega))]
    exact lastK_no (fun l hl => h l (by omega))

/-- what the map holds behind i rounds. -/
def mOf (kc kn : Nat → Int) (ga : Nat → Nat) (i : Nat) : Value → Option Value
  | .agg a => match a.toList with
    | [.int .u8 c, .int .u32 n] => (lastK kc kn c n i).map fun j => .slice (some ⟨ga j, 0, none⟩) 1 1
    | _ => none
  | _ => none

theorem mOf_tag (kc kn : Nat → Int) (ga : Nat → Nat) (i : Nat) (c n : Int) : mOf kc kn ga i (tagV c n) = (lastK kc kn c n i).map fun j => .slice (some ⟨ga j, 0, none⟩) 1 1 := rfl

theorem mOf_zero (kc kn : Nat → Int) (ga : Nat → Nat) : mOf kc kn ga 0 = fun _ => none := by
  funext x
  unfold mOf
  split
  · split
    · rfl
    · rfl
  · rfl

theorem mOf_succ (kc kn : Nat → Int) (ga ga' : Nat → Nat) (i : Nat) (hga : ∀ j, j < i → ga' j = ga j) (x : Value) (hx : x ≠ tagV (kc i % 4) (kn i)) : mOf kc kn ga' (i + 1) x = mOf kc kn ga i x := by
  unfold mOf
  split
  · rename_i a
    split
    · rename_i c n hl
      have ha : a = #[.int .u8 c, .int .u32 n] := by rw [← hl]
      have hne : ¬ (kc i % 4 = c ∧ kn i = n) := fun ⟨h1, h2⟩ => hx (by rw [ha, h1, h2])
      have e : lastK kc kn c n (i + 1) = lastK kc kn c n i := by
        rw [lastK, if_neg hne]
      rw [e]
      cases h : lastK kc kn c n i with
      | none => rfl
      | some j => simp [hga j (lastK_lt h).1]
    · rfl
  · rfl

theorem mOf_hit (kc kn : Nat → Int) (ga : Nat → Nat) (i : Nat) : mOf kc kn ga (i + 1) (tagV (kc i % 4) (kn i)) = some (.slice (some ⟨ga i, 0, none⟩) 1 1) := by
  rw [mOf_tag, lastK, if_pos ⟨rfl, rfl⟩]; rfl

/-- the keys as they lie. -/
def KeysAt (w : World) (ko : Option Addr) (nk : Nat) (kc kn : Nat → Int) : Prop :=
  0 < nk → ∃ b off, ko = some ⟨b, off, none⟩ ∧ b < w.heap.size ∧ ∀ i, i < nk → 0 ≤ kc i ∧ kc i ≤ 255 ∧ 0 ≤ kn i ∧ kn i ≤ 4294967295 ∧ w.cell? ⟨b, off + i * 2, none⟩ = some (.int .u8 (kc i)) ∧ w.cell? ⟨b, off + i * 2 + 1, none⟩ = some (.int .u32 (kn i))

/-- the bools as they lie. -/
def BoolsAt (w : World) (xo : Option Addr) (nc : Nat) (cb : Nat → Bool) : Prop :=
  0 < nc → ∃ b off, xo = some ⟨b, off, none⟩ ∧ b < w.heap.size ∧ ∀ i, i < nc → w.cell? ⟨b, off + i, none⟩ = some (.bool (cb i))

/-- a table of values. -/
structure Tab (w : World) (b n : Nat) (v : Nat → Value) : Prop where
  cell : ∀ i, i < n → w.cell? ⟨b, i, none⟩ = some (v i)
  free : ∀ i, i < n → w.frozen? ⟨b, i, none⟩ = false

theorem Tab.set {w : World} {b n : Nat} {v : Nat → Value} (h : Tab w b n v) (j : Nat) (u : Value) {v' : Nat → Value} (hj : v' j = u) (hne : ∀ i, i ≠ j → i < n → v' i = v i) :
    Tab (w.setCell ⟨b, j, none⟩ u) b n v' := by
  refine ⟨?_, ?_⟩
  · intro i hi
    by_cases e : i = j
    · subst e
      rw [World.cell?_setCell_same _ _ _ (h.cell i hi), hj]
    · rw [World.cell?_setCell_other _ _ _ _ (by intro e2; injection e2 with _ e3; exact e e3.symm), h.cell i hi, hne i e hi]
  · intro i hi
    rw [World.frozen?_setCell]
    exact h.free i hi

theorem Tab.of_block {w w' : World} {b n : Nat} {v : Nat → Value} (h : Tab w b n v) (e : w'.heap[b]? = w.heap[b]?) : Tab w' b n v :=
  ⟨fun i hi => (World.cell?_of_block (w := w) e).trans (h.cell i hi), fun i hi => (World.frozen?_of_block (w := w) e).trans (h.free i hi)⟩

theorem Tab.congr {w : World} {b n : Nat} {v v' : Nat → Value} (h : Tab w b n v) (e : ∀ i, i < n → v i = v' i) : Tab w b n v' :=
  ⟨fun i hi => by rw [h.cell i hi, e i hi], h.free⟩

theorem Tab.made {w : World} {base e g n cap : Nat} {z : Value} (h : w.ownsRow base e 1 (.slice (some ⟨g, 0, none⟩) n cap) n (madeCells #[z] (n * 1)).toList) : Tab w g n (fun _ => z) := by
  refine ⟨?_, ?_⟩
  · intro i hi
    rw [h.cellAt i (by omega), Nat.mul_one, toList_madeCells_one]
    simp [hi]
  · intro i _
    exact h.frozenAt i

theorem ownsRow_lt {w : World} {base e size g n cap : Nat} {m : Nat} {xs : List Value} (h : w.ownsRow base e size (.slice (some ⟨g, 0, none⟩) n cap) m xs) : g < w.heap.size := by
  obtain ⟨_, h | ⟨g', cap', cur, h1, _, h2, _⟩⟩ := h
  · cases h.1
  · injection h1 with h1 _ _
    injection h1 with h1
    injection h1 with h1 _ _
    subst h1
    exact (Array.getElem?_eq_some_iff.1 h2).1
end Go.Proofs.YbulkakoiDoor
