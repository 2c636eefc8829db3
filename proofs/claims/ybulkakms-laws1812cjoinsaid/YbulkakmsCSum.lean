import Derived.Test.YbulkakmsCGrow
namespace Go.Proofs.Ybulkakms
open Go.RowKit

/-- a Summary but for its versions. -/
structure Sm where
  r : Int
  f : Int
  l : Int
  x : Int
  ov : Bool
  sk : Int
  dm : Int
  mx : Value

def Sm.cells (s : Sm) (v : Value) : Array Value := #[.int .i64 s.r, .int .i64 s.f, .int .i64 s.l, .int .i64 s.x, .bool s.ov, v, .int .i64 s.sk, .int .i64 s.dm, s.mx]

/-- block S is the Summary s, its versions l. -/
structure SumAt (w : World) (S : Nat) (s : Sm) (v : Value) (l : List Vc) : Prop where
  blk : w.heap[S]? = some (.cells (s.cells v) 63)
  own : w.ownsRow (S + 1) 66 3 v l.length (flat3 l)

/-- w' is w but for block S and v's row. -/
structure Kept (w w' : World) (S : Nat) (v : Value) : Prop where
  os : w'.os = w.os
  tape : w'.tape = w.tape
  output : w'.output = w.output
  size : w.heap.size ≤ w'.heap.size
  block : ∀ k, k < w.heap.size → k ≠ S → v.ownBlock ≠ some k → w'.heap[k]? = w.heap[k]?

/-- v' lies where v lay, or in a block newer than w. -/
def Loc (w : World) (v v' : Value) : Prop := v'.ownBlock = v.ownBlock ∨ ∃ g, v'.ownBlock = some g ∧ w.heap.size ≤ g

theorem Kept.refl (w : World) (S : Nat) (v : Value) : Kept w w S v := ⟨rfl, rfl, rfl, Nat.le_refl _, fun _ _ _ _ => rfl⟩
theorem Loc.refl (w : World) (v : Value) : Loc w v v := .inl rfl

theorem Kept.trans {w w1 w2 : World} {S : Nat} {v v1 : Value} (h : Kept w w1 S v) (g : Kept w1 w2 S v1) (hl : Loc w v v1) : Kept w w2 S v :=
  ⟨g.os.trans h.os, g.tape.trans h.tape, g.output.trans h.output, Nat.le_trans h.size g.size, fun k hk hS hv => (g.block k (Nat.lt_of_lt_of_le hk h.size) hS (fun e => by
    rcases hl with hl | ⟨q, hl, hq⟩
    · exact hv (hl ▸ e)
    · rw [hl] at e; injection e with e; omega)).trans (h.block k hk hS hv)⟩

theorem Loc.trans {w w1 : World} {v v1 v2 : Value} (h : Loc w v v1) (g : Loc w1 v1 v2) (hs : w.heap.size ≤ w1.heap.size) : Loc w v v2 := by
  rcases g with g | ⟨q, g, hq⟩
  · rcases h with h | ⟨p, h, hp⟩
    · exact .inl (g.trans h)
    · exact .inr ⟨p, g.trans h, hp⟩
  · exact .inr ⟨q, g, by omega⟩

theorem Kept.of_below {w w' : World} {S : Nat} {v : Value} (h : Below w.heap.size w w') : Kept w w' S v := ⟨h.os, h.tape, h.output, h.size, fun k hk _ _ => h.block k hk⟩
theorem Kept.of_grown {w w' : World} {S : Nat} {v : Value} (h : w.grownBy w' v.ownBlock) : Kept w w' S v := ⟨h.os, h.tape, h.output, h.size, fun k hk _ hv => h.block k hk (fun e => hv e.symm)⟩

theorem setCell_other3 (u : World) {g k j : Nat} (v : Value) (h : k ≠ g) : (u.setCell ⟨g, j, none⟩ v).heap[k]? = u.heap[k]? := by
  simp [World.setCell, Array.getElem?_modify, Ne.symm h]
theorem setCell_size3 (u : World) {g j : Nat} (v : Value) : (u.setCell ⟨g, j, none⟩ v).heap.size = u.heap.size := by
  simp [World.setCell]

theorem Kept.set {w w' : World} {S : Nat} {v : Value} (h : Kept w w' S v) (j : Nat) (u : Value) : Kept w (w'.setCell ⟨S, j, none⟩ u) S v :=
  ⟨h.os, h.tape, h.output, by rw [setCell_size3]; exact h.size, fun k hk hS hv => (setCell_other3 _ _ hS).trans (h.block k hk hS hv)⟩

/-- one cell of a row that is owned, set anew. -/
theorem owns_set3 {w : World} {base e size n g cap j : Nat} {xs : List Value} (h : w.ownsRow base e size (.slice (some ⟨g, 0, none⟩) n cap) n xs) (u : Value) :
    (w.setCell ⟨g, j, none⟩ u).ownsRow base e size (.slice (some ⟨g, 0, none⟩) n cap) n (xs.set j u) := by
  obtain ⟨hl, h0 | ⟨g', cap', cur, hv, hb, hh, h1, h2, h3, h4⟩⟩ := h
  · cases h0.1
  · injection hv with hv1 hv2 hv3
    injection hv1 with hv1
    injection hv1 with hv1 _ _
    subst hv1 hv3
    refine ⟨by simpa using hl, .inr ⟨g, cap, cur.setIfInBounds j u, rfl, hb, ?_, h1, h2, by simpa using h3, ?_⟩⟩
    · simp [World.setCell, Array.getElem?_modify, hh]
    · rw [Array.toList_setIfInBounds, ← h4]
      exact (List.take_set ..).symm ▸ rfl

theorem owns_frozen3 {w : World} {base e size n g cap : Nat} {xs : List Value} (h : w.ownsRow base e size (.slice (some ⟨g, 0, none⟩) n cap) n xs) (j : Nat) : w.frozen? ⟨g, j, none⟩ = false := by
  obtain ⟨hl, h0 | ⟨g', cap', cur, hv, hb, hh, h1, h2, h3, h4⟩⟩ := h
  · cases h0.1
  · injection hv with hv1 hv2 hv3
    injection hv1 with hv1
    injection hv1 with hv1 _ _
    subst hv1
    exact frozen_of_row _ _ _ _ _ hh

theorem own_ge3 {w : World} {base e size n : Nat} {v : Value} {xs : List Value} (h : w.ownsRow base e size v n xs) (k : Nat) (hk : v.ownBlock = some k) : base ≤ k := by
  obtain ⟨_, ⟨h0, _⟩ | ⟨g, cap, cur, h0, hb, _⟩⟩ := h
  · rw [h0] at hk; cases hk
  · rw [h0] at hk
    injection hk with hk
    have e : g = k := hk
    omega
theorem own_lt3 {w : World} {base e size n : Nat} {v : Value} {xs : List Value} (h : w.ownsRow base e size v n xs) (k : Nat) (hk : v.ownBlock = some k) : k < w.heap.size := by
  obtain ⟨_, ⟨h0, _⟩ | ⟨g, cap, cur, h0, hb, hh, _⟩⟩ := h
  · rw [h0] at hk; cases hk
  · rw [h0] at hk
    injection hk with hk
    have := (Array.getElem?_eq_some_iff.1 hh).1
    have e : g = k := hk
    omega
theorem owns_of3 {w w' : World} {base e size n : Nat} {v : Value} {xs : List Value} (h : w.ownsRow base e size v n xs) (hb : ∀ k, v.ownBlock = some k → w'.heap[k]? = w.heap[k]?) : w'.ownsRow base e size v n xs := by
  obtain ⟨h1, h0 | ⟨g, cap, cur, h0, hb', hh, r⟩⟩ := h
  · exact ⟨h1, .inl h0⟩
  · exact ⟨h1, .inr ⟨g, cap, cur, h0, hb', (hb g (by rw [h0]; rfl)).trans hh, r⟩⟩

/-- S and its row have not turned. -/
theorem SumAt.kept {w w' : World} {S : Nat} {s : Sm} {v : Value} {l : List Vc} (h : SumAt w S s v l) (hS : w'.heap[S]? = w.heap[S]?) (hv : ∀ k, v.ownBlock = some k → w'.heap[k]? = w.heap[k]?) : SumAt w' S s v l :=
  ⟨hS.trans h.blk, owns_of3 h.own hv⟩

theorem SumAt.below {w w' : World} {S : Nat} {s : Sm} {v : Value} {l : List Vc} (h : SumAt w S s v l) (hb : Below w.heap.size w w') : SumAt w' S s v l :=
  h.kept (hb.block _ (Array.getElem?_eq_some_iff.1 h.blk).1) (fun k hk => hb.block k (own_lt3 h.own k hk))

theorem SumAt.lt {w : World} {S : Nat} {s : Sm} {v : Value} {l : List Vc} (h : SumAt w S s v l) : S < w.heap.size := (Array.getElem?_eq_some_iff.1 h.blk).1

theorem SumAt.cell {w : World} {S : Nat} {s : Sm} {v : Value} {l : List Vc} (h : SumAt w S s v l) : ∀ k, w.cell? ⟨S, k, none⟩ = (s.cells v)[k]? := fun _ => cell_of_row _ _ _ _ _ _ h.blk
theorem SumAt.frozen {w : World} {S : Nat} {s : Sm} {v : Value} {l : List Vc} (h : SumAt w S s v l) : ∀ k, w.frozen? ⟨S, k, none⟩ = false := fun _ => frozen_of_row _ _ _ _ _ h.blk

/-- a place in the list, found. -/
theorem place_found {l : List Vc} {a b n : Int} {i : Nat} (h : Place l a b i true) : ∃ c x r, l = c ++ x :: r ∧ c.length = i ∧ addV a b n l = c ++ ⟨x.a, x.b, wrap64 (x.n + n)⟩ :: r := by
  obtain ⟨h1, h2, h3, _⟩ := h
  obtain ⟨hi, hx⟩ := h3 rfl
  refine ⟨l.take i, l[i], l.drop (i + 1), ?_, by rw [List.length_take]; omega, ?_⟩
  · rw [List.getElem_cons_drop, List.take_append_drop]
  · conv => lhs; rw [show l = l.take i ++ l[i] :: l.drop (i + 1) from by rw [List.getElem_cons_drop, List.take_append_drop]]
    refine addV_found _ _ _ (fun y hy => ?_) hx
    obtain ⟨j, hj, rfl⟩ := List.getElem_of_mem hy
    rw [List.getElem_take]
    rw [List.length_take] at hj
    exact h2 j (by omega) (by omega)

theorem place_new {l : List Vc} {a b n : Int} {i : Nat} (h : Place l a b i false) : addV a b n l = l.take i ++ ⟨a, b, n⟩ :: l.drop i := by
  obtain ⟨h1, h2, _, h4⟩ := h
  conv => lhs; rw [show l = l.take i ++ l.drop i from (List.take_append_drop i l).symm]
  refine addV_new _ _ (fun y hy => ?_) (fun x s e => ?_)
  · obtain ⟨j, hj, rfl⟩ := List.getElem_of_mem hy
    rw [List.getElem_take]
    rw [List.length_take] at hj
    exact h2 j (by omega) (by omega)
  · have hi : i < l.length := by
      have := congrArg List.length e
      simp at this
      omega
    have := h4 rfl hi
    have hx : x = l[i] := by
      rw [List.drop_eq_getElem_cons hi] at e
      injection e with e
      exact e.symm
    rw [hx]
    exact this
end Go.Proofs.Ybulkakms
