import Derived.Maps.OwnSet
import Derived.Maps.Views
import Derived.WalkKit
namespace Go.Proofs.Ybulkakms
open Go.RowKit Go.Maps

/-- AN ELEMENT READS AS ITSELF. -/
def exactR (v : Value) : Option (DataW Value × List MemPlace) := some (.held v, [])

/-- BLOCK b IS A MAP (keys of type k) OF AT MOST n ENTRIES, s IN NUMBER: m SAYS WHAT LIES AT EACH KEY. -/
def MapAt (w : World) (P : Program) (k : TypeId) (b n s : Nat) (m : Value → Option Value) : Prop :=
  ∃ D : DataW Value, w.ownsMap P k exactR b n D ∧ Maps.size D = s ∧ ∀ key kl, keyOf P k key = some kl → Maps.has D kl = (m key).isSome ∧ ∀ v, m key = some v → ∀ z, D.atKey kl z = .held v

variable {P : Program} {k t e : TypeId} {w : World} {b n s : Nat} {m : Value → Option Value}

theorem MapAt.made (w : World) (P : Program) (k : TypeId) : MapAt (w.alloc (.map #[] 0)) P k w.heap.size 0 0 (fun _ => none) :=
  ⟨_, World.ownsMap_made w P k exactR, rfl, fun _ _ _ => ⟨rfl, fun v h => by cases h⟩⟩

theorem MapAt.kept {w' : World} {row : Option Nat} (h : MapAt w P k b n s m) (hg : w.grownBy w' row) (hne : some b ≠ row) : MapAt w' P k b n s m := by
  obtain ⟨D, h1, h2⟩ := h
  exact ⟨D, h1.kept hg hne, h2⟩

theorem MapAt.of_block {w' : World} (h : MapAt w P k b n s m) (hb : w'.heap[b]? = w.heap[b]?) : MapAt w' P k b n s m := by
  obtain ⟨D, ⟨es, clock, h1, h2⟩, h3⟩ := h
  exact ⟨D, ⟨es, clock, hb.trans h1, h2⟩, h3⟩

theorem MapAt.lt (h : MapAt w P k b n s m) : b < w.heap.size := by
  obtain ⟨D, h1, _⟩ := h
  exact h1.lt

theorem MapAt.look (h : MapAt w P k b n s m) (K : Keyed P k) (ht : P.underlying t = some (.map k e)) {z : Value} (hz : (zeroValue e).run P w = .ok z w) {key : Value} {kl : Lit} (hkey : keyOf P k key = some kl) :
    (Instr.lookup t (.map (some b)) key false).run P w = .ok ((m key).getD z) w := by
  obtain ⟨D, h1, _, h3⟩ := h
  obtain ⟨v, ps, hrun, hv⟩ := h1.lookup K ht hz (zd := .held z) (zp := []) rfl hkey
  obtain ⟨ha, hb⟩ := h3 key kl hkey
  simp only [exactR, Option.some.injEq, Prod.mk.injEq] at hv
  rw [hrun]
  cases hm : m key with
  | none =>
    rw [hm] at ha
    rw [Maps.atKey_of_not_has (by simpa using ha)] at hv
    have := hv.1
    simp only [DataW.held.injEq] at this
    rw [this]; rfl
  | some u =>
    rw [hb u hm] at hv
    have := hv.1
    simp only [DataW.held.injEq] at this
    rw [this]; rfl

theorem MapAt.look_ok (h : MapAt w P k b n s m) (K : Keyed P k) (ht : P.underlying t = some (.map k e)) {z : Value} (hz : (zeroValue e).run P w = .ok z w) {key : Value} {kl : Lit} (hkey : keyOf P k key = some kl) :
    (Instr.lookup t (.map (some b)) key true).run P w = .ok (.tuple #[(m key).getD z, .bool (m key).isSome]) w := by
  obtain ⟨D, h1, _, h3⟩ := h
  obtain ⟨v, ps, hrun, hv⟩ := h1.look_ok K ht hz (zd := .held z) (zp := []) rfl hkey
  obtain ⟨ha, hb⟩ := h3 key kl hkey
  simp only [exactR, Option.some.injEq, Prod.mk.injEq] at hv
  rw [hrun, ha]
  cases hm : m key with
  | none =>
    rw [hm] at ha
    rw [Maps.atKey_of_not_has (by simpa using ha)] at hv
    have := hv.1
    simp only [DataW.held.injEq] at this
    rw [this]; rfl
  | some u =>
    rw [hb u hm] at hv
    have := hv.1
    simp only [DataW.held.injEq] at this
    rw [this]; rfl

theorem MapAt.store (h : MapAt w P k b n s m) (K : Keyed P k) (ht : P.underlying t = some (.map k e)) (hn : n < maxLen) {key : Value} {kl : Lit} (hkey : keyOf P k key = some kl) (v : Value) :
    ∃ w', (Instr.mapUpdate t (.map (some b)) key v).run P w = .ok () w' ∧ (∀ m', m' key = some v → (∀ x, x ≠ key → m' x = m x) → MapAt w' P k b (n + 1) (if (m key).isSome then s else s + 1) m') ∧ w.mapTurned w' b := by
  obtain ⟨D, h1, h2, h3⟩ := h
  obtain ⟨w', hrun, ho, hg⟩ := h1.store K ht hn (key := key) (val := v) (kl := kl) (d := .held v) (ps := []) hkey rfl
  refine ⟨w', hrun, fun m' hs ho' => ⟨_, ho, ?_, ?_⟩, hg⟩
  · rw [Maps.size_put (h1.tidy K), (h3 key kl hkey).1, h2]
  · intro x xl hx
    by_cases e1 : x = key
    · subst e1
      rw [hkey] at hx
      cases hx
      rw [hs]
      exact ⟨Maps.has_put_same h1.isMap (K.key hkey) _, fun u hu z => by cases hu; exact Maps.atKey_put_same h1.isMap (K.key hkey) _ z⟩
    · have hne : xl ≠ kl := fun e2 => by subst e2; exact e1 (K.inj hx hkey)
      rw [ho' x e1]
      obtain ⟨ha, hb⟩ := h3 x xl hx
      exact ⟨by rw [Maps.has_put_other hne]; exact ha, fun u hu z => by rw [Maps.atKey_put_other hne]; exact hb u hu z⟩

theorem MapAt.len (h : MapAt w P k b n s m) (ht : P.underlying t = some (.map k e)) (ty : TypeId) : (Builtin.len_ #[t] ty #[.map (some b)]).run P w = .ok (.int .i64 s) w := by
  obtain ⟨D, h1, h2, _⟩ := h
  rw [h1.len ht ty, h2]
end Go.Proofs.Ybulkakms
