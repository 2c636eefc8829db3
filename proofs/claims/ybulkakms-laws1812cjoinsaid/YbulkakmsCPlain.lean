import Derived.Test.YbulkakmsChecked
import Derived.WalkKit
import Derived.WalkSpells
import Derived.WalkSmall
import Derived.Deep.RegionHeld3
import Derived.Deep.AppendLies
import Derived.Deep.QuietTactic
import Derived.BigQuiet
import Derived.Deep.DeepCutAuto
import Derived.Deep.LoopGhost
import Derived.Maps.AppendAt
namespace Go.Proofs.Ybulkakms
open Go.RowKit

/-- one version with its count. -/
structure Vc where
  a : Int
  b : Int
  n : Int

def Vc.v (x : Vc) : Array Value := #[.int .u16 x.a, .int .u16 x.b, .int .i64 x.n]
/-- x lies ahead of the version a.b -/
def Vc.lt (x : Vc) (a b : Int) : Bool := decide (x.a < a) || (decide (x.a = a) && decide (x.b < b))
def Vc.is (x : Vc) (a b : Int) : Bool := decide (x.a = a) && decide (x.b = b)
def Vc.ok (x : Vc) : Prop := 0 ≤ x.a ∧ x.a ≤ 65535 ∧ 0 ≤ x.b ∧ x.b ≤ 65535 ∧ -9223372036854775808 ≤ x.n ∧ x.n ≤ 9223372036854775807

/-- n more of a.b -/
def addV (a b n : Int) : List Vc → List Vc
  | [] => [⟨a, b, n⟩]
  | x :: r => if x.is a b then ⟨x.a, x.b, wrap64 (x.n + n)⟩ :: r else if x.lt a b then x :: addV a b n r else ⟨a, b, n⟩ :: x :: r

def Sorted (l : List Vc) : Prop := l.Pairwise fun x y => x.lt y.a y.b = true

theorem Vc.lt_trans {x : Vc} {a b c d : Int} (h1 : x.lt a b = true) (h2 : (⟨a, b, 0⟩ : Vc).lt c d = true) : x.lt c d = true := by
  simp [Vc.lt] at *
  omega

theorem Vc.lt_n (a b n m c d : Int) : (⟨a, b, n⟩ : Vc).lt c d = (⟨a, b, m⟩ : Vc).lt c d := rfl

theorem addV_mem {a b n : Int} {l : List Vc} {y : Vc} (h : y ∈ addV a b n l) : (y.a = a ∧ y.b = b) ∨ y ∈ l := by
  induction l with
  | nil => simp [addV] at h; subst h; exact .inl ⟨rfl, rfl⟩
  | cons x r ih =>
    rw [addV] at h
    split at h
    · rename_i hx
      simp at h
      rcases h with rfl | h
      · left; simpa [Vc.is] using hx
      · exact .inr (List.mem_cons_of_mem _ h)
    · split at h
      · simp at h
        rcases h with rfl | h
        · exact .inr (List.mem_cons_self ..)
        · rcases ih h with h | h
          · exact .inl h
          · exact .inr (List.mem_cons_of_mem _ h)
      · simp at h
        rcases h with rfl | rfl | h
        · exact .inl ⟨rfl, rfl⟩
        · exact .inr (List.mem_cons_self ..)
        · exact .inr (List.mem_cons_of_mem _ h)

theorem Vc.tri (x : Vc) (a b : Int) (h1 : x.is a b = false) (h2 : x.lt a b = false) : (⟨a, b, 0⟩ : Vc).lt x.a x.b = true := by
  simp [Vc.is, Vc.lt] at *
  omega

theorem addV_sorted {a b n : Int} {l : List Vc} (h : Sorted l) : Sorted (addV a b n l) := by
  induction l with
  | nil => simp [addV, Sorted]
  | cons x r ih =>
    obtain ⟨hx, hr⟩ := List.pairwise_cons.1 h
    rw [addV]
    split
    · exact List.pairwise_cons.2 ⟨fun y hy => hx y hy, hr⟩
    · rename_i hni
      split
      · rename_i hlt
        refine List.pairwise_cons.2 ⟨fun y hy => ?_, ih hr⟩
        rcases addV_mem hy with ⟨e1, e2⟩ | hy
        · rw [e1, e2]; exact hlt
        · exact hx y hy
      · rename_i hnl
        have ht := Vc.tri x a b (by simpa using hni) (by simpa using hnl)
        refine List.pairwise_cons.2 ⟨fun y hy => ?_, h⟩
        simp at hy
        rcases hy with rfl | hy
        · exact ht
        · exact Vc.lt_trans (x := ⟨a, b, n⟩) (a := x.a) (b := x.b) ht (hx y hy)

theorem addV_len (a b n : Int) (l : List Vc) : (addV a b n l).length ≤ l.length + 1 := by
  induction l with
  | nil => simp [addV]
  | cons x r ih =>
    rw [addV]
    split
    · simp
    · split
      · simp only [List.length_cons]; omega
      · simp

theorem addV_ok {a b n : Int} {l : List Vc} (ha : 0 ≤ a ∧ a ≤ 65535) (hb : 0 ≤ b ∧ b ≤ 65535) (hn : -9223372036854775808 ≤ n ∧ n ≤ 9223372036854775807) (h : ∀ x ∈ l, x.ok) : ∀ x ∈ addV a b n l, x.ok := by
  induction l with
  | nil => intro x hx; simp [addV] at hx; subst hx; exact ⟨ha.1, ha.2, hb.1, hb.2, hn.1, hn.2⟩
  | cons y r ih =>
    have hy := h y (List.mem_cons_self ..)
    have hr : ∀ x ∈ r, x.ok := fun x hx => h x (List.mem_cons_of_mem _ hx)
    intro x hx
    rw [addV] at hx
    split at hx
    · simp at hx
      rcases hx with rfl | hx
      · obtain ⟨h1, h2, h3, h4, h5, h6⟩ := hy
        refine ⟨h1, h2, h3, h4, ?_, ?_⟩ <;> (show _ ≤ _; simp only [wrap64]; omega)
      · exact hr x hx
    · split at hx
      · simp at hx
        rcases hx with rfl | hx
        · exact hy
        · exact ih hr x hx
      · simp at hx
        rcases hx with rfl | rfl | hx
        · exact ⟨ha.1, ha.2, hb.1, hb.2, hn.1, hn.2⟩
        · exact hy
        · exact hr x hx

/-- at a place ahead of which all lie ahead of a.b: found. -/
theorem addV_found {a b n : Int} (c : List Vc) (x : Vc) (r : List Vc) (hc : ∀ y ∈ c, y.lt a b = true) (hx : x.is a b = true) : addV a b n (c ++ x :: r) = c ++ ⟨x.a, x.b, wrap64 (x.n + n)⟩ :: r := by
  induction c with
  | nil => simp [addV, hx]
  | cons y c ih =>
    have hy := hc y (List.mem_cons_self ..)
    have hni : y.is a b = false := by simp [Vc.is, Vc.lt] at *; omega
    rw [List.cons_append, addV, hni, hy, if_neg (by simp), if_pos rfl, ih (fun z hz => hc z (List.mem_cons_of_mem _ hz))]
    rfl

/-- .. not found. -/
theorem addV_new {a b n : Int} (c r : List Vc) (hc : ∀ y ∈ c, y.lt a b = true) (hr : ∀ x s, r = x :: s → x.is a b = false ∧ x.lt a b = false) : addV a b n (c ++ r) = c ++ ⟨a, b, n⟩ :: r := by
  induction c with
  | nil =>
    cases r with
    | nil => rfl
    | cons x s =>
      obtain ⟨h1, h2⟩ := hr x s rfl
      simp [addV, h1, h2]
  | cons y c ih =>
    have hy := hc y (List.mem_cons_self ..)
    have hni : y.is a b = false := by simp [Vc.is, Vc.lt] at *; omega
    rw [List.cons_append, addV, hni, hy, if_neg (by simp), if_pos rfl, ih (fun z hz => hc z (List.mem_cons_of_mem _ hz))]
    rfl

/-! ### the cells of a row of versions -/
def flat3 (l : List Vc) : List Value := l.flatMap fun x => x.v.toList

theorem flat3_length (l : List Vc) : (flat3 l).length = l.length * 3 := by
  induction l with
  | nil => rfl
  | cons a r ih => simp only [flat3, List.flatMap_cons, List.length_append, List.length_cons] at *; rw [ih]; simp [Vc.v]; omega

theorem flat3_append (a b : List Vc) : flat3 (a ++ b) = flat3 a ++ flat3 b := by simp [flat3]

theorem flat3_get (l : List Vc) (i k : Nat) (hi : i < l.length) (hk : k < 3) : (flat3 l)[i * 3 + k]? = (l[i]).v[k]? := by
  induction l generalizing i with
  | nil => simp at hi
  | cons a r ih =>
    have hv : a.v.toList.length = 3 := rfl
    have e : flat3 (a :: r) = a.v.toList ++ flat3 r := rfl
    rw [e]
    cases i with
    | zero =>
      rw [List.getElem?_append_left (by rw [hv]; omega)]
      simp
    | succ i =>
      rw [List.getElem?_append_right (by rw [hv]; omega), hv]
      have : (i + 1) * 3 + k - 3 = i * 3 + k := by omega
      rw [this, ih i (by simpa using hi)]
      rfl

theorem flat3_one (l : List Vc) : ∀ u ∈ flat3 l, u.oneCell' = true := by
  intro u hu
  rw [flat3, List.mem_flatMap] at hu
  obtain ⟨d, _, hd⟩ := hu
  simp [Vc.v] at hd
  rcases hd with rfl | rfl | rfl <;> rfl

theorem flat3_drop (l : List Vc) (i : Nat) : (flat3 l).drop (i * 3) = flat3 (l.drop i) := by
  induction l generalizing i with
  | nil => simp [flat3]
  | cons x r ih =>
    cases i with
    | zero => simp
    | succ i =>
      have e : flat3 (x :: r) = x.v.toList ++ flat3 r := rfl
      have hv : x.v.toList.length = 3 := rfl
      rw [e, List.drop_succ_cons, ← ih i, List.drop_append, hv, List.drop_eq_nil_of_le (by rw [hv]; omega), List.nil_append]
      congr 1
      omega

theorem flat3_take (l : List Vc) (i : Nat) : (flat3 l).take (i * 3) = flat3 (l.take i) := by
  induction l generalizing i with
  | nil => simp [flat3]
  | cons x r ih =>
    cases i with
    | zero => simp [flat3]
    | succ i =>
      have e : flat3 (x :: r) = x.v.toList ++ flat3 r := rfl
      have hv : x.v.toList.length = 3 := rfl
      rw [e, List.take_succ_cons, List.take_append, hv, List.take_of_length_le (by rw [hv]; omega)]
      have : (i + 1) * 3 - 3 = i * 3 := by omega
      rw [this, ih i]
      rfl

theorem flat3_set (c : List Vc) (x : Vc) (r : List Vc) (m : Int) : (flat3 (c ++ x :: r)).set (c.length * 3 + 2) (.int .i64 m) = flat3 (c ++ ⟨x.a, x.b, m⟩ :: r) := by
  have hl := flat3_length c
  rw [flat3_append, flat3_append, List.set_append_right _ _ (by omega), hl]
  have e : c.length * 3 + 2 - c.length * 3 = 2 := by omega
  rw [e]
  simp [flat3, Vc.v]
end Go.Proofs.Ybulkakms
