import Derived.Test.YbulkakmsCAdd
namespace Go.Proofs.Ybulkakms
open Go.RowKit

/-- what is left to be shown when all but the last operation have come up. -/
def lastQ (P : Program) (o : Oper) (Q : Exit → Act → World → Prop) : Exit → Act → World → Prop
  | .normal, a, w => o.wp P a w (fun a' w' => Q .normal a' w') Q
  | e, a, w => Q e a w

theorem upon_lastQ {P : Program} {o oi : Oper} {Q : Exit → Act → World → Prop} {a : Act} {K : Act → World → Prop} (r : Result Next) (h : oi.upon P a K (lastQ P o Q) r) : oi.upon P a K Q r := by
  cases r with
  | ok n w' =>
    cases n with
    | enter f args => exact Calls.mono h (fun e w'' he => by cases e <;> exact he)
    | _ => exact h
  | halt x w' => cases x <;> exact h

theorem getD_push_false (listed : Array Bool) (i : Nat) : (listed.push false).getD i false = listed.getD i false := by
  rcases Nat.lt_trichotomy i listed.size with h | h | h
  · simp [h, Nat.lt_succ_of_lt h, Array.getElem_push_lt]
  · subst h; simp
  · have h1 : ¬ i < listed.size := by omega
    have h2 : ¬ i < listed.size + 1 := by omega
    simp [h1, h2]

theorem getD_push_lt (listed : Array Bool) (b d : Bool) {i : Nat} (h : i < listed.size) : (listed.push b).getD i d = listed.getD i d := by
  simp [h, Nat.lt_succ_of_lt h, Array.getElem_push_lt]

theorem getD_replicate_no (m j : Nat) : (Array.replicate m false).getD j false = false := by
  rcases Nat.lt_or_ge j m with h | h
  · simp [h]
  · simp [Nat.not_lt.2 h]

theorem push_get {ops : Array Oper} {o : Oper} {i : Nat} (h : i < ops.size) : (ops.push o)[i]? = ops[i]? := by
  rw [Array.getElem?_push_lt h, Array.getElem?_eq_getElem h]

/-- what has come up waited for nothing that has not. -/
def Closed (md : Region.Mode) (ops : Array Oper) (listed : Array Bool) : Prop := ∀ (j : Nat) (oj : Oper), ops[j]? = some oj → listed.getD j false = true → ∀ e ∈ oj.after, Region.binds md e = true → listed.getD e.on false = true

theorem Closed.set {md : Region.Mode} {ops : Array Oper} {listed : Array Bool} (h : Closed md ops listed) {i : Nat} (hi : i ∈ Region.ready md ops listed) : Closed md ops (listed.setIfInBounds i true) := fun j oj hj hl e he hb => by
  obtain ⟨_, oi, hoi, hall⟩ := mem_ready.1 hi
  by_cases hij : i = j
  · subst hij
    have : oj = oi := Option.some.inj (hj.symm.trans hoi)
    subst this
    exact getD_set_true (hall e he hb)
  · rw [getD_set_ne false hij] at hl
    exact getD_set_true (h j oj hj hl e he hb)

/-- THE LAST OPERATION WAITS FOR ALL THE OTHERS: so it may be looked at alone, behind them. -/
theorem wpAny_last {P : Program} {md : Region.Mode} {ops : Array Oper} {o : Oper} {Q : Exit → Act → World → Prop}
    (hg : ∀ (i : Nat) (oi : Oper), ops[i]? = some oi → oi.guard = none) (hgo : o.guard = none)
    (hback : ∀ (i : Nat) (oi : Oper), ops[i]? = some oi → ∀ e ∈ oi.after, Region.binds md e = true → e.on < i)
    (hall : ∀ i, i < ops.size → (∃ e ∈ o.after, Region.binds md e = true ∧ e.on = i) ∨ ∃ (j : Nat) (oj : Oper), i < j ∧ ops[j]? = some oj ∧ ∃ e ∈ oj.after, Region.binds md e = true ∧ e.on = i) (hlt : ∀ e ∈ o.after, Region.binds md e = true → e.on < ops.size) :
    ∀ (fuel : Nat) (listed : Array Bool) (a : Act) (w : World), listed.size = ops.size → Closed md ops listed → wpAny P md ops (lastQ P o Q) fuel listed a w → wpAny P md (ops.push o) Q (fuel + 1) (listed.push false) a w := by
  -- who may come up
  have hready : ∀ (listed : Array Bool) (i : Nat), listed.size = ops.size → i < ops.size → (i ∈ Region.ready md (ops.push o) (listed.push false) ↔ i ∈ Region.ready md ops listed) := fun listed i hs hi => by
    rw [mem_ready, mem_ready, push_get hi, getD_push_lt listed false true (by omega)]
    simp only [getD_push_false]
  have hlast : ∀ (listed : Array Bool), listed.size = ops.size → Closed md ops listed → (ops.size ∈ Region.ready md (ops.push o) (listed.push false)) → Region.ready md ops listed = [] := fun listed hs hcl h => by
    obtain ⟨_, o', ho', hall'⟩ := mem_ready.1 h
    have : o' = o := by simpa using ho'.symm
    subst this
    have key : ∀ (d i : Nat), ops.size - i = d → i < ops.size → listed.getD i false = true := by
      intro d
      induction d using Nat.strongRecOn with
      | _ d ih =>
        intro i hd hilt
        rcases hall i hilt with ⟨e, he, hb, hon⟩ | ⟨k, ok, hik, hok, e, he, hb, hon⟩
        · have h1 := hall' e he hb
          rw [getD_push_false, hon] at h1
          exact h1
        · have hkl : k < ops.size := (Array.getElem?_eq_some_iff.1 hok).1
          have h1 := hcl k ok hok (ih (ops.size - k) (by omega) k rfl hkl) e he hb
          rw [hon] at h1
          exact h1
    apply List.eq_nil_iff_forall_not_mem.2
    intro i hi
    obtain ⟨hun, oi, hoi, _⟩ := mem_ready.1 hi
    have hilt : i < ops.size := (Array.getElem?_eq_some_iff.1 hoi).1
    have h1 := key _ i rfl hilt
    have h2 : listed.getD i true = listed.getD i false := by simp [show i < listed.size by omega]
    rw [h2, h1] at hun
    cases hun
  have hfull : ∀ (listed : Array Bool), listed.size = ops.size → Region.ready md ops listed = [] → ∀ i, i < ops.size → listed.getD i false = true := fun listed hs hr i => by
    induction i using Nat.strongRecOn with
    | _ i ih =>
      intro hi
      cases hl : listed.getD i false with
      | true => rfl
      | false =>
        exfalso
        have hmem : i ∈ Region.ready md ops listed := by
          refine mem_ready.2 ⟨by simpa [show i < listed.size by omega] using hl, ops[i], Array.getElem?_eq_getElem hi, fun e he hb => ?_⟩
          have := hback i _ (Array.getElem?_eq_getElem hi) e he hb
          exact ih e.on this (by omega)
        rw [hr] at hmem
        cases hmem
  have hcome : ∀ (listed : Array Bool), listed.size = ops.size → Region.ready md ops listed = [] → ops.size ∈ Region.ready md (ops.push o) (listed.push false) := fun listed hs hr => by
    refine mem_ready.2 ⟨by rw [← hs]; simp, o, by simp, fun e he hb => ?_⟩
    rw [getD_push_false]
    exact hfull listed hs hr _ (hlt e he hb)
  have hdone : ∀ (listed : Array Bool), listed.size = ops.size → Region.ready md ops listed = [] → Region.ready md (ops.push o) ((listed.push false).setIfInBounds ops.size true) = [] := fun listed hs hr => by
    apply List.eq_nil_iff_forall_not_mem.2
    intro i hi
    obtain ⟨hun, oi, hoi, _⟩ := mem_ready.1 hi
    have hilt : i < ops.size + 1 := by simpa using (Array.getElem?_eq_some_iff.1 hoi).1
    by_cases hin : i = ops.size
    · subst hin
      rw [← hs] at hun
      simp at hun
    · have h1 := hfull listed hs hr i (by omega)
      rw [getD_set_ne true (by omega), getD_push_lt listed false true (by omega)] at hun
      have h2 : listed.getD i true = listed.getD i false := by simp [show i < listed.size by omega]
      rw [h2, h1] at hun
      cases hun
  have hw : ∀ (oi : Oper) (os : Array Oper) (tm : Array Value), oi.guard = none → Region.wanted oi (yielded os tm) = true := fun oi os tm h => by simp [Region.wanted, h]
  have hend : ∀ (listed : Array Bool) (a : Act) (w : World) (fuel : Nat), listed.size = ops.size → Region.ready md ops listed = [] → lastQ P o Q .normal a w → wpOp P (ops.push o) Q ops.size (wpAny P md (ops.push o) Q fuel ((listed.push false).setIfInBounds ops.size true)) a w := fun listed a w fuel hs hr hq => by
    unfold wpOp
    have e : (ops.push o)[ops.size]? = some o := by simp
    simp only [e, hw o _ _ hgo, if_true]
    exact .inl (Oper.wp_mono (fun a' w' hQ => wpAny_done (hdone listed hs hr) hQ fuel) hq)
  have hlt' : ∀ (listed : Array Bool) (i : Nat), i ∈ Region.ready md (ops.push o) (listed.push false) → i < ops.size ∨ i = ops.size := fun listed i hi => by
    obtain ⟨_, oi, hoi, _⟩ := mem_ready.1 hi
    have : i < ops.size + 1 := by simpa using (Array.getElem?_eq_some_iff.1 hoi).1
    omega
  intro fuel
  induction fuel with
  | zero =>
    intro listed a w hs hcl h
    refine ⟨fun h0 => ?_, fun i hi => ?_⟩
    · have := hcome listed hs h.1
      rw [h0] at this
      cases this
    · rcases hlt' listed i hi with hin | rfl
      · have := (hready listed i hs hin).1 hi
        rw [h.1] at this
        cases this
      · exact hend listed a w 0 hs h.1 h.2
  | succ fuel ih =>
    intro listed a w hs hcl h
    refine ⟨fun h0 => ?_, fun i hi => ?_⟩
    · cases hr : Region.ready md ops listed with
      | nil =>
        have := hcome listed hs hr
        rw [h0] at this
        cases this
      | cons j r =>
        have hj : j ∈ Region.ready md ops listed := by rw [hr]; exact List.mem_cons_self ..
        have hjl : j < ops.size := by
          obtain ⟨_, oi, hoi, _⟩ := mem_ready.1 hj
          exact (Array.getElem?_eq_some_iff.1 hoi).1
        have := (hready listed j hs hjl).2 hj
        rw [h0] at this
        cases this
    · rcases hlt' listed i hi with hin | rfl
      · have hi' := (hready listed i hs hin).1 hi
        have h2 := h.2 i hi'
        unfold wpOp at h2 ⊢
        rw [push_get hin]
        have hoi : ops[i]? = some ops[i] := Array.getElem?_eq_getElem hin
        have hgi := hg i _ hoi
        simp only [hoi, hw _ _ _ hgi, if_true] at h2 ⊢
        have hset : (listed.push false).setIfInBounds i true = (listed.setIfInBounds i true).push false := by
          apply Array.ext_getElem?
          intro k
          simp only [Array.getElem?_setIfInBounds, Array.getElem?_push, Array.size_push, Array.size_setIfInBounds]
          by_cases hk : i = k
          · subst hk
            have h1 : i ≠ listed.size := by omega
            have h2 : i < listed.size := by omega
            simp [h1, h2, Nat.lt_succ_of_lt h2]
          · simp [hk]
        rcases h2 with h2 | ⟨h2, h3⟩
        · refine .inl (Oper.wp_mono (fun a' w' hk => ?_) (upon_lastQ _ h2))
          rw [hset]
          exact ih _ a' w' (by simp [hs]) (hcl.set hi') hk
        · exact .inr ⟨h2, h3⟩
      · exact hend listed a w (fuel + 1) hs (hlast listed hs hcl hi) (h.1 (hlast listed hs hcl hi))

/-- the same for a region that is written out: its conditions are reckoned. -/
def lastB (ops : Array Oper) (o : Oper) : Bool :=
  ops.all (fun oi => oi.guard.isNone) && o.guard.isNone && (List.range ops.size).all (fun i => ((ops[i]?).map fun oi => oi.after.all fun e => !Region.binds .any e || decide (e.on < i)).getD true) &&
    (List.range ops.size).all (fun i => (o.after.any fun e => Region.binds .any e && decide (e.on = i)) || (List.range ops.size).any (fun k => decide (i < k) && ((ops[k]?).map fun ok => ok.after.any fun e => Region.binds .any e && decide (e.on = i)).getD false)) && o.after.all (fun e => !Region.binds .any e || decide (e.on < ops.size))

theorem wp_region_last {P : Program} {id : Nat} {ops : Array Oper} {o : Oper} {Q : Exit → Act → World → Prop} {S : World → Prop} {a : Act} {w : World} (hm : P.follows .mixedOrders = true) (hb : lastB ops o = true) (hS : S w.drew)
    (h : S w.drew → wpAnyH P .any ops (lastQ P o Q) S ops.size (Array.replicate ops.size false) a w.drew) : (Code.region id (ops.push o) true).wp P Q a w := by
  simp only [lastB, Bool.and_eq_true, List.all_eq_true, List.mem_range, Array.all_eq_true_iff_forall_mem] at hb
  obtain ⟨⟨⟨⟨h1, h2⟩, h3⟩, h4⟩, h5⟩ := hb
  have hsz : (ops.push o).size = ops.size + 1 := by simp
  refine wp_region_any hm ?_
  rw [hsz, show Array.replicate (ops.size + 1) false = (Array.replicate ops.size false).push false from Array.replicate_succ]
  refine wpAny_last (fun i oi hi => ?_) (by simpa using h2) (fun i oi hi e he hbd => ?_) (fun i hi => ?_) (fun e he hbd => ?_) ops.size _ a _ (by simp) (fun j oj _ hl => ?_) (wpAny_of_held _ _ _ _ (h hS))
  · have := h1 oi (Array.mem_of_getElem? hi)
    simpa using this
  · have hlt : i < ops.size := (Array.getElem?_eq_some_iff.1 hi).1
    have := h3 i hlt
    simp only [hi, Option.map_some, Option.getD_some, Array.all_eq_true_iff_forall_mem] at this
    have := this e he
    simpa [hbd] using this
  · have h4' := h4 i hi
    simp only [Bool.or_eq_true] at h4'
    rcases h4' with hx | hx
    · obtain ⟨e, he, hx⟩ := Array.any_eq_true'.1 hx
      simp only [Bool.and_eq_true, decide_eq_true_eq] at hx
      exact .inl ⟨e, he, hx.1, hx.2⟩
    · obtain ⟨k, hk, hx⟩ := List.any_eq_true.1 hx
      simp only [Bool.and_eq_true, decide_eq_true_eq] at hx
      have hkl : k < ops.size := List.mem_range.1 hk
      have hok : ops[k]? = some ops[k] := Array.getElem?_eq_getElem hkl
      rw [hok] at hx
      simp only [Option.map_some, Option.getD_some] at hx
      obtain ⟨e, he, hy⟩ := Array.any_eq_true'.1 hx.2
      simp only [Bool.and_eq_true, decide_eq_true_eq] at hy
      exact .inr ⟨k, _, hx.1, hok, e, he, hy.1, hy.2⟩
  · have := h5 e he
    simpa [hbd] using this
  · rw [getD_replicate_no] at hl
    cases hl

theorem wp_region_lastN {P : Program} {id : Nat} {all : Array Oper} {o : Oper} {Q : Exit → Act → World → Prop} {S : World → Prop} {a : Act} {w : World} (n : Nat) (ho : all[n]? = some o) (hsz : all.size = n + 1) (hm : P.follows .mixedOrders = true) (hb : lastB all.pop o = true) (hS : S w.drew)
    (h : S w.drew → wpAnyH P .any all.pop (lastQ P o Q) S n (Array.replicate n false) a w.drew) : (Code.region id all true).wp P Q a w := by
  have e : all = all.pop.push o := by
    apply Array.ext_getElem?
    intro i
    rw [Array.getElem?_push, Array.size_pop, hsz]
    by_cases hi : i = n
    · subst hi; simp [ho]
    · have : i ≠ n + 1 - 1 := by omega
      rw [if_neg this, Array.getElem?_pop, hsz]
      by_cases h2 : i < n
      · simp [h2]
      · have h3 : ¬ i < n + 1 - 1 := by omega
        rw [if_neg h3, Array.getElem?_eq_none (by omega)]
  rw [e]
  have hs : all.pop.size = n := by rw [Array.size_pop, hsz]; rfl
  refine wp_region_last hm hb hS ?_
  rw [hs]
  exact h
end Go.Proofs.Ybulkakms
