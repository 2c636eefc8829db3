import Derived.Test.YbulkakmsExact
import Derived.Maps.Range
namespace Go.Proofs.Ybulkakms
open Go.RowKit Go.Maps

/-- 'for k, v := range m' under way over the map of block b by the iterator of block r; todo: the keys still to come, cnt in number. -/
def RangeAt (w : World) (P : Program) (k : TypeId) (b r n : Nat) (m : Value → Option Value) (todo : Value → Prop) (cnt : Nat) : Prop :=
  ∃ (D : DataW Value) (left : Lit → Bool), w.ranges P k exactR b r n D left cnt ∧ (∀ key kl, keyOf P k key = some kl → Maps.has D kl = (m key).isSome ∧ ∀ v, m key = some v → ∀ z, D.atKey kl z = .held v) ∧ ∀ key kl, keyOf P k key = some kl → (left kl = true ↔ todo key)

variable {P : Program} {k t e : TypeId} {w : World} {b r n s cnt : Nat} {m : Value → Option Value} {todo : Value → Prop}

theorem MapAt.range (h : MapAt w P k b n s m) (K : Keyed P k) (ht : P.underlying t = some (.map k e)) :
    ∃ w', (Instr.range t (.map (some b))).run P w = .ok (.pointer (some ⟨w.heap.size, 0, none⟩)) w' ∧ RangeAt w' P k b w.heap.size n m (fun key => (m key).isSome = true) s ∧ w.grownBy w' none ∧ w'.heap.size = w.heap.size + 1 := by
  obtain ⟨D, h1, rfl, h3⟩ := h
  obtain ⟨w', a1, a2, a3, a4⟩ := h1.range K ht
  exact ⟨w', a1, ⟨D, _, a2, h3, fun key kl hk => by rw [(h3 key kl hk).1]⟩, a3, a4⟩

theorem RangeAt.kept {w' : World} {row : Option Nat} (h : RangeAt w P k b r n m todo cnt) (hg : w.grownBy w' row) (hb : some b ≠ row) (hr : some r ≠ row) : RangeAt w' P k b r n m todo cnt := by
  obtain ⟨D, left, h1, h2⟩ := h
  exact ⟨D, left, h1.kept hg hb hr, h2⟩

theorem RangeAt.of_blocks {w' : World} (h : RangeAt w P k b r n m todo cnt) (hb : w'.heap[b]? = w.heap[b]?) (hr : w'.heap[r]? = w.heap[r]?) : RangeAt w' P k b r n m todo cnt := by
  obtain ⟨D, left, ⟨es, clock, since, seen, c0, h1, h2, h3, h4, h5, h6⟩, h7⟩ := h
  exact ⟨D, left, ⟨es, clock, since, seen, c0, hb.trans h1, h2, h3, h4, hr.trans h5, h6⟩, h7⟩

theorem RangeAt.lt (h : RangeAt w P k b r n m todo cnt) : r < w.heap.size := by
  obtain ⟨D, left, h1, _⟩ := h
  exact h1.lt

theorem RangeAt.ne (h : RangeAt w P k b r n m todo cnt) : r ≠ b := by
  obtain ⟨D, left, h1, _⟩ := h
  exact h1.ne

theorem RangeAt.next (h : RangeAt w P k b r n m todo cnt) (K : Keyed P k) (ty : TypeId) :
    ((∀ key kl, keyOf P k key = some kl → ¬ todo key) ∧ (Instr.next (.pointer (some ⟨r, 0, none⟩)) false ty).run P w = .ok (.tuple #[.bool false]) w) ∨
    ∃ key kl v w' cnt', keyOf P k key = some kl ∧ todo key ∧ m key = some v ∧ (Instr.next (.pointer (some ⟨r, 0, none⟩)) false ty).run P w = .ok (.tuple #[.bool true, key, v]) w' ∧
      RangeAt w' P k b r n m (fun x => todo x ∧ x ≠ key) cnt' ∧ cnt' < cnt ∧ w.grownBy w' (some r) ∧ w'.heap.size = w.heap.size ∧ (Instr.entry (.pointer (some ⟨r, 0, none⟩))).run P w' = .ok (.tuple #[key, v]) w' := by
  obtain ⟨D, left, h1, h2, h3⟩ := h
  have hown := h1.owns
  rcases h1.next K ty with ⟨_, hl, hrun⟩ | ⟨key, v, kl, y, w', cnt', hkey, hlk, hv, hat, hrun, hrg, hlt, hgr, hsz, hen⟩
  · refine .inl ⟨fun key kl hk ht => ?_, hrun⟩
    have := (h3 key kl hk).2 ht
    rw [hl kl] at this
    cases this
  · have hm : m key = some v := by
      obtain ⟨a1, a2⟩ := h2 key kl hkey
      simp only [exactR, Option.some.injEq] at hv
      subst hv
      cases hmk : m key with
      | none =>
        exfalso
        rw [hmk] at a1
        have hx := hat (.held (.bool true))
        have hy := hat (.held (.bool false))
        rw [Maps.atKey_of_not_has (by simpa using a1)] at hx hy
        rw [← hy] at hx
        simp at hx
      | some u =>
        have := a2 u hmk (.held v)
        rw [hat] at this
        simp only [DataW.held.injEq] at this
        rw [this]
    refine .inr ⟨key, kl, v, w', cnt', hkey, (h3 key kl hkey).1 hlk, hm, hrun, ⟨D, _, hrg, h2, fun x xl hx => ?_⟩, hlt, hgr, hsz, hen⟩
    simp only [Bool.and_eq_true, Bool.not_eq_true']
    rw [h3 x xl hx]
    constructor
    · rintro ⟨h4, h5⟩
      refine ⟨h4, fun e1 => ?_⟩
      subst e1
      rw [hx] at hkey
      cases hkey
      rw [WideAt.sameKey_self (K.key hx)] at h5
      cases h5
    · rintro ⟨h4, h5⟩
      refine ⟨h4, ?_⟩
      cases hs : xl.sameKey kl
      · rfl
      · have := WideAt.sameKey_eq hs
        subst this
        exact absurd (K.inj hx hkey) h5
end Go.Proofs.Ybulkakms
