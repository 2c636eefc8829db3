import Derived.Test.YbulkakmsAOf2
import Derived.Test.YbulkakmsEntry
import Derived.MapViews
import Derived.DeepKeys4
import Derived.WideKeyArgs
import Derived.Lib.SmallJoins
namespace Go.Proofs.Ybulkakms
open Go.RowKit Go.Maps

theorem laidOutA : laidOutB Yba.prog = true := by kernel_rfl
theorem row33 : (33 : TypeId) < Yba.prog.types.size := of_decide_eq_true (by kernel_rfl)
theorem cells33 : Yba.prog.cellsOf 33 = 2 := by kernel_rfl
theorem deep33 : Yba.prog.keyTypeAt (Yba.prog.types.size + 1) 33 = true := by kernel_rfl
theorem wide33 : (match Yba.prog.underlying 33 with | some (.array _ _) | some (.struct _) => true | _ => false) = true := by rw [Yba.underlying33]
set_option maxRecDepth 100000 in
theorem law33 : WideMaps.KeyLaw Yba.prog 33 := deep_law_laid laidOutA (m := 2) (by omega) row33 (by kernel_rfl) wide33
theorem keyed33 : Keyed Yba.prog 33 := Keyed.of_law law33
theorem formed33 {c0 c1 : Value} : (Value.agg #[c0, c1]).formed Yba.prog 33 = true := by simp [Value.formed, Yba.underlying33, cells33]

/-- a FileRef. -/
abbrev refV (h l : Int) : Value := .agg #[.int .u64 h, .int .u64 l]

set_option maxRecDepth 100000 in
theorem key33 (h l : Int) (hh : (Lit.int .u64 h).wf = true) (hl : (Lit.int .u64 l).wf = true) : ∃ kl, keyOf Yba.prog 33 (refV h l) = some kl := by
  have h : DataW.Trod (H := Unit) (fun _ => ()) Yba.prog default 0 (fun _ => true) true 33 (refV h l) (.agg [.lit (.int .u64 h), .lit (.int .u64 l)]) [] := by
    have := Joins.shut_agg2 (enc := fun _ => ()) (w := default) (base := 0) (spare := fun _ => true) (held := true) (y0 := (.lit (.int .u64 h), [])) (y1 := (.lit (.int .u64 l), [])) Yba.underlying33 (by kernel_rfl) cells33
      (v0 := .int .u64 h) (v1 := .int .u64 l) ⟨1, by simp [DataW.trod, Yba.underlying31, hh]⟩ ⟨1, by simp [DataW.trod, Yba.underlying31, hl]⟩
    simpa using this
  exact ⟨_, (keyOf_asKey deep33 wide33 formed33 h).1⟩

theorem zero29 (w : World) : (zeroValue 29).run Yba.prog w = .ok (.slice none 0 0) w := by kernel_rfl

/-- BLOCK M IS THE MAP OF DIRECTORIES: L d THE SPANS OF DIRECTORY d, V d THE SLICE THAT HOLDS THEM. -/
structure Dirs (w : World) (base M : Nat) (L : Nat → List DS) (V : Nat → Value) (m : Value → Option Value) (n s : Nat) : Prop where
  map : MapAt w Yba.prog 33 M n s m
  here : ∀ d, d < 4 → L d ≠ [] → m (refV 0 d) = some (V d)
  gone : ∀ d, d < 4 → L d = [] → m (refV 0 d) = none ∧ V d = .slice none 0 0
  oth : ∀ x, (∀ d : Nat, d < 4 → x ≠ refV 0 d) → m x = none
  own : ∀ d, d < 4 → w.ownsRow base 35 7 (V d) (L d).length (flat (L d))
  apart : ∀ d e, d < 4 → e < 4 → d ≠ e → ∀ g, (V d).ownBlock = some g → (V e).ownBlock ≠ some g
  lt : M < base
  size : base ≤ w.heap.size
  cnt : s = (if L 0 = [] then 0 else 1) + (if L 1 = [] then 0 else 1) + (if L 2 = [] then 0 else 1) + (if L 3 = [] then 0 else 1)

/-- a function, turned at one place. -/
def upd {α : Type} (f : Nat → α) (d : Nat) (x : α) : Nat → α := fun i => if i = d then x else f i
theorem upd_same {α : Type} (f : Nat → α) (d : Nat) (x : α) : upd f d x d = x := if_pos rfl
theorem upd_other {α : Type} (f : Nat → α) (d : Nat) (x : α) {i : Nat} (h : i ≠ d) : upd f d x i = f i := if_neg h

theorem refV_inj {a b c d : Int} (h : refV a b = refV c d) : a = c ∧ b = d := by
  injection h with h
  simpa using h

theorem cnt_upd (L : Nat → List DS) (d : Nat) (hd : d < 4) (l : List DS) (hl : l ≠ []) :
    (if upd L d l 0 = [] then 0 else 1) + (if upd L d l 1 = [] then 0 else 1) + (if upd L d l 2 = [] then 0 else 1) + (if upd L d l 3 = [] then 0 else 1) =
      (if L 0 = [] then 0 else 1) + (if L 1 = [] then 0 else 1) + (if L 2 = [] then 0 else 1) + (if L 3 = [] then 0 else 1) + (if L d = [] then 1 else 0) := by
  have h4 : d = 0 ∨ d = 1 ∨ d = 2 ∨ d = 3 := by omega
  rcases h4 with rfl | rfl | rfl | rfl
  all_goals
    simp only [upd, if_true, if_neg hl, Nat.reduceEqDiff, if_false, Nat.zero_ne_one, Nat.one_ne_zero]
    split <;> split <;> split <;> split <;> simp_all


/-- a store at directory d: its slice is v' by now, and lies where the old one lay or in a new block. -/
theorem Dirs.push {W w3 w4 : World} {base M n s u : Nat} {L : Nat → List DS} {V : Nat → Value} {m : Value → Option Value} (h : Dirs W base M L V m n s) {d : Nat} (hd : d < 4) {l : List DS} (hl : l ≠ []) {v' : Value}
    (hu : W.heap.size ≤ u) (hs : u ≤ w3.heap.size)
    (hk : ∀ k, k < W.heap.size → k ≠ M → (V d).ownBlock ≠ some k → w3.heap[k]? = W.heap[k]?)
    (hown : w3.ownsRow base 35 7 v' l.length (flat l)) (hloc : v'.ownBlock = (V d).ownBlock ∨ v'.ownBlock = some u)
    (hw4 : ∃ o, w4 = Go.ChangeMaps.setBlock w3 M o)
    (hmap : ∀ m', m' (refV 0 d) = some v' → (∀ x, x ≠ refV 0 d → m' x = m x) → MapAt w4 Yba.prog 33 M (n + 1) (if (m (refV 0 d)).isSome then s else s + 1) m') :
    ∃ m' s', Dirs w4 base M (upd L d l) (upd V d v') m' (n + 1) s' := by
  obtain ⟨o, rfl⟩ := hw4
  have hsz := h.size
  have hlt := h.lt
  have h4 : ∀ k, k ≠ M → (Go.ChangeMaps.setBlock w3 M o).heap[k]? = w3.heap[k]? := fun k hk => by
    simp only [Go.ChangeMaps.setBlock]; rw [Array.getElem?_setIfInBounds_ne (Ne.symm hk)]
  have hne : ∀ {e size n' : Nat} {v : Value} {xs : List Value} {w : World}, w.ownsRow base e size v n' xs → v.ownBlock ≠ some M := fun ho hb => by
    have := own_ge ho M hb
    omega
  refine ⟨fun y => @ite _ (y = refV 0 d) (Classical.propDecidable _) (some v') (m y), _, hmap _ (if_pos rfl) (fun x hx => if_neg hx), ?_, ?_, ?_, ?_, ?_, hlt, ?_, ?_⟩
  · intro e he hne'
    by_cases x : e = d
    · subst x
      rw [upd_same]
      exact if_pos rfl
    · rw [upd_other _ _ _ x] at hne' ⊢
      have : refV 0 e ≠ refV 0 d := fun hh => x (by have := (refV_inj hh).2; omega)
      exact (if_neg this).trans (h.here e he hne')
  · intro e he hnil
    by_cases x : e = d
    · subst x
      rw [upd_same] at hnil
      exact absurd hnil hl
    · rw [upd_other _ _ _ x] at hnil ⊢
      have : refV 0 e ≠ refV 0 d := fun hh => x (by have := (refV_inj hh).2; omega)
      exact ⟨(if_neg this).trans (h.gone e he hnil).1, (h.gone e he hnil).2⟩
  · intro x hx
    exact (if_neg (hx d hd)).trans (h.oth x hx)
  · intro e he
    by_cases x : e = d
    · subst x
      rw [upd_same, upd_same]
      exact owns_of hown (fun g hg => h4 g (fun hh => hne hown (hh ▸ hg)))
    · rw [upd_other _ _ _ x, upd_other _ _ _ x]
      refine owns_of (h.own e he) (fun g hg => (h4 g (fun hh => hne (h.own e he) (hh ▸ hg))).trans (hk g (own_lt (h.own e he) g hg) (fun hh => hne (h.own e he) (hh ▸ hg)) (h.apart e d he hd x g hg)))
  · intro e f he hf hef g hg
    have hnew : v'.ownBlock = some g → ∀ c, c < 4 → c ≠ d → (V c).ownBlock ≠ some g := fun hv c hc hcd hcg => by
      rcases hloc with hl1 | hl1
      · exact h.apart c d hc hd hcd g hcg (hl1.symm.trans hv)
      · rw [hl1] at hv
        have := own_lt (h.own c hc) g hcg
        injection hv with hv
        omega
    by_cases x : e = d
    · subst x
      rw [upd_same] at hg
      rw [upd_other _ _ _ (Ne.symm hef)]
      exact hnew hg f hf (Ne.symm hef)
    · rw [upd_other _ _ _ x] at hg
      by_cases y : f = d
      · subst y
        rw [upd_same]
        exact fun hv => hnew hv e he x hg
      · rw [upd_other _ _ _ y]
        exact h.apart e f he hf hef g hg
  · have : (Go.ChangeMaps.setBlock w3 M o).heap.size = w3.heap.size := by simp [Go.ChangeMaps.setBlock]
    omega
  · rw [cnt_upd L d hd l hl, ← h.cnt]
    by_cases x : L d = []
    · rw [(h.gone d hd x).1, if_pos x]; rfl
    · rw [h.here d hd x, if_neg x]; rfl
end Go.Proofs.Ybulkakms
