import Derived.Test.YbulkakmsDirs
namespace Go.Proofs.Ybulkakms
open Go.RowKit Go.Maps

/-- how many of the first n hold. -/
def cnt (h : Nat → Bool) : Nat → Nat
  | 0 => 0
  | i + 1 => cnt h i + (if h i then 1 else 0)

theorem cnt_set (h : Nat → Bool) (j n : Nat) : cnt (upd h j true) n = cnt h n + (if j < n ∧ h j = false then 1 else 0) := by
  induction n with
  | zero => simp [cnt]
  | succ n ih =>
    rw [cnt, cnt, ih]
    by_cases e : j = n
    · subst e
      rw [upd_same]
      cases hh : h j <;> simp
    · rw [upd_other _ _ _ (Ne.symm e)]
      have : (j < n + 1 ∧ h j = false) ↔ (j < n ∧ h j = false) := by constructor <;> (rintro ⟨a, b⟩; exact ⟨by omega, b⟩)
      simp only [this]
      omega

/-- BLOCK M IS THE SET OF PARENTS. -/
structure Pars (w : World) (M : Nat) (h : Nat → Bool) (m : Value → Option Value) (n s : Nat) : Prop where
  map : MapAt w Yba.prog 33 M n s m
  here : ∀ k : Nat, k < 8 → m (refV k 0) = if h k then some (.agg #[]) else none
  oth : ∀ x, (∀ k : Nat, k < 8 → x ≠ refV k 0) → m x = none
  cnt : s = cnt h 8

theorem Pars.made (w : World) : Pars (w.alloc (.map #[] 0)) w.heap.size (fun _ => false) (fun _ => none) 0 0 :=
  ⟨MapAt.made w _ _, fun _ _ => rfl, fun _ _ => rfl, rfl⟩

theorem Pars.of_block {w w' : World} {M n s : Nat} {h : Nat → Bool} {m : Value → Option Value} (p : Pars w M h m n s) (e : w'.heap[M]? = w.heap[M]?) : Pars w' M h m n s :=
  ⟨p.map.of_block e, p.here, p.oth, p.cnt⟩

theorem Pars.put {w : World} {M n s : Nat} {h : Nat → Bool} {m : Value → Option Value} (p : Pars w M h m n s) (hn : n < maxLen) {j : Nat} (hj : j < 8) :
    ∃ w', (Instr.mapUpdate 38 (.map (some M)) (refV j 0) (.agg #[])).run Yba.prog w = .ok () w' ∧ (∃ o, w' = Go.ChangeMaps.setBlock w M o) ∧ ∃ m' s', Pars w' M (upd h j true) m' (n + 1) s' := by
  obtain ⟨kl, hkl⟩ := key33 j 0 (WalkArith.wf_u64 (by omega)) (WalkArith.wf_u64 (by omega))
  obtain ⟨w', hrun, hm, ⟨_, _, es, c, _, hw⟩⟩ := p.map.store keyed33 (t := 38) Yba.underlying38 hn hkl (.agg #[])
  refine ⟨w', hrun, ⟨_, hw⟩, fun y => @ite _ (y = refV j 0) (Classical.propDecidable _) (some (.agg #[])) (m y), _, hm _ (if_pos rfl) (fun x hx => if_neg hx), ?_, ?_, ?_⟩
  · intro k hk
    by_cases x : k = j
    · subst x
      rw [upd_same]
      exact if_pos rfl
    · rw [upd_other _ _ _ x]
      have : refV k 0 ≠ refV j 0 := fun hh => x (by have := (refV_inj hh).1; omega)
      exact (if_neg this).trans (p.here k hk)
  · intro x hx
    exact (if_neg (hx j hj)).trans (p.oth x hx)
  · rw [cnt_set, p.here j hj, p.cnt]
    cases hh : h j <;> simp [hj]

theorem hasB_upd (x : Nat → Int) (i j : Nat) (hj : x i % 8 = j) : upd (fun k : Nat => hasB x k i) j true = fun k : Nat => hasB x k (i + 1) := by
  funext k
  by_cases e : k = j
  · subst e
    rw [upd_same, hasB]
    simp [hj]
  · rw [upd_other _ _ _ e, hasB]
    have : (x i % 8 == (k : Int)) = false := by rw [hj]; simp; omega
    simp [this]
end Go.Proofs.Ybulkakms
