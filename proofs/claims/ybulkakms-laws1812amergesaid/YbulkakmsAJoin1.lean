import Derived.Test.YbulkakmsABuild
import Derived.Test.YbulkakmsRange
import Derived.Test.YbulkakmsAMerge
namespace Go.Proofs.Ybulkakms
open Go.RowKit Go.Maps

/-- the first range of join under way: ws the world when it began (its iterator is block r), wr the world now. -/
structure Joining (lo : Nat) (w ws wr : World) (M r : Nat) (L L' : Nat → List DS) (V : Nat → Value) (M' n' : Nat) (m' : Value → Option Value) (todo : Value → Prop) (cnt : Nat) (K : Nat → List DS) (U : Nat → Value) (mk : Value → Option Value) (nk sk : Nat) : Prop where
  dirs : Dirs wr (M + 1) M K U mk nk sk
  tail : ∀ d : Nat, d < 4 → (todo (refV 0 d) → K d = L d) ∧ (¬ todo (refV 0 d) → K d = mergeL (L d) (L' d))
  frame : ∀ k, k < ws.heap.size → k ≠ M → k ≠ r → (∀ d, d < 4 → (V d).ownBlock ≠ some k) → wr.heap[k]? = ws.heap[k]?
  rows : ∀ d, d < 4 → ∀ g, (U d).ownBlock = some g → (∃ e, e < 4 ∧ (V e).ownBlock = some g) ∨ ws.heap.size ≤ g
  size : ws.heap.size ≤ wr.heap.size
  rng : RangeAt wr Yba.prog 33 M' r n' m' todo cnt
  below : Below lo w wr

theorem joining_start {lo lo' B M Pm n s n2 s2 B' M' Pm' n' s' n2' s2' : Nat} {L L' : Nat → List DS} {V V' : Nat → Value} {m m2 m' m2' : Value → Option Value} {h h' : Nat → Bool} {w ws : World}
    (hp : Part w lo B M Pm L V m n s h m2 n2 s2) (hq : Part w lo' B' M' Pm' L' V' m' n' s' h' m2' n2' s2') (hlo : lo ≤ w.heap.size)
    (hr : RangeAt ws Yba.prog 33 M' w.heap.size n' m' (fun key => (m' key).isSome = true) s') (hg : w.grownBy ws none) :
    Joining lo w ws ws M w.heap.size L L' V M' n' m' (fun key => (m' key).isSome = true) s' L V m n s := by
  have hb : ∀ k, k < w.heap.size → ws.heap[k]? = w.heap[k]? := fun k hk => hg.block k hk (by simp)
  refine ⟨hp.dirs.kept (hb _ hp.dirs.map.lt) (fun d hd g hgg => hb g (own_lt (hp.dirs.own d hd) g hgg)) hg.size, fun d hd => ⟨fun _ => rfl, fun hn => ?_⟩, fun _ _ _ _ _ => rfl, fun d hd g hgg => .inl ⟨d, hd, hgg⟩, Nat.le_refl _, hr, (Below.refl _ _).grown hg hlo (fun k hk => by cases hk)⟩
  have : L' d = [] := by
    by_cases x : L' d = []
    · exact x
    · rw [hq.dirs.here d hd x] at hn
      exact absurd rfl hn
  rw [this]
  rfl

/-- a key of the map of directories. -/
theorem Dirs.key_is {w : World} {base M n s : Nat} {L : Nat → List DS} {V : Nat → Value} {m : Value → Option Value} (h : Dirs w base M L V m n s) {key v : Value} (hk : m key = some v) : ∃ d : Nat, d < 4 ∧ key = refV 0 d ∧ L d ≠ [] ∧ v = V d := by
  by_cases x : ∃ d : Nat, d < 4 ∧ key = refV 0 d
  · obtain ⟨d, hd, rfl⟩ := x
    by_cases y : L d = []
    · rw [(h.gone d hd y).1] at hk; cases hk
    · rw [h.here d hd y] at hk
      cases hk
      exact ⟨d, hd, rfl, y, rfl⟩
  · rw [h.oth key (fun d hd e => x ⟨d, hd, e⟩)] at hk
    cases hk

theorem assert24 (v : Value) (w : World) : (Instr.typeAssert (.iface 24 v) 87 24 false).run Yba.prog w = .ok v w := by kernel_rfl
theorem round_facts {lo lo' B M Pm n s n2 s2 B' M' Pm' n' s' n2' s2' : Nat} {L L' : Nat → List DS} {V V' : Nat → Value} {m m2 m' m2' : Value → Option Value} {h h' : Nat → Bool} {w ws wr w1 : World}
    (hp : Part w lo B M Pm L V m n s h m2 n2 s2) (hq : Part w lo' B' M' Pm' L' V' m' n' s' h' m2' n2' s2') (hsep : B < lo' ∧ ∀ d, d < 4 → ∀ g, (V d).ownBlock = some g → g < lo')
    {todo : Value → Prop} {cnt : Nat} {K : Nat → List DS} {U : Nat → Value} {mk : Value → Option Value} {nk sk : Nat}
    (hj : Joining lo w ws wr M w.heap.size L L' V M' n' m' todo cnt K U mk nk sk) (hg : w.grownBy ws none) (hgr : wr.grownBy w1 (some w.heap.size)) (hsz : w1.heap.size = wr.heap.size) (hws : ws.heap.size = w.heap.size + 1) {d : Nat} (hd : d < 4) :
    w1.cell? ⟨B, 0, none⟩ = some (.map (some M)) ∧ Dirs w1 (M + 1) M K U mk nk sk ∧ Seen w1 (V' d) (L' d) := by
  have o1 := hp.o1
  have o2 := hp.o2
  have o3 := hp.o3
  have o4 := hp.o4
  have p1 := hq.o1
  have p2 := hq.o2
  have p3 := hq.o3
  have p4 := hq.o4
  have sz := hj.size
  have hb : ∀ k, k < w.heap.size → ws.heap[k]? = w.heap[k]? := fun k hk => hg.block k hk (by simp)
  have h1 : ∀ k, k < wr.heap.size → k ≠ w.heap.size → w1.heap[k]? = wr.heap[k]? := fun k hk hne => hgr.block k hk (fun e => hne (Option.some.inj e))
  have h2 : ∀ k, k < w.heap.size → k ≠ M → (∀ d, d < 4 → (V d).ownBlock ≠ some k) → w1.heap[k]? = w.heap[k]? := fun k hk hM hV =>
    (h1 k (by omega) (by omega)).trans ((hj.frame k (by omega) hM (by omega) hV).trans (hb k hk))
  refine ⟨?_, ?_, ?_⟩
  · rw [World.cell?_of_block (w := w) (a := ⟨B, 0, none⟩) (h2 B (by omega) (by omega) (fun d hd e => (hp.rows d hd B e).2 rfl))]
    exact hp.c0
  · refine hj.dirs.kept (h1 M (by omega) (by omega)) (fun d hd g hgg => h1 g (own_lt (hj.dirs.own d hd) g hgg) ?_) (by omega)
    rcases hj.rows d hd g hgg with ⟨e, he, hv⟩ | hv
    · have := own_lt (hp.dirs.own e he) g hv
      omega
    · omega
  · refine (Seen.of_owns (hq.dirs.own d hd)).kept (fun g off c hv hl hgl => ?_) (by omega)
    have hob : (V' d).ownBlock = some g := by rw [hv]; rfl
    have hge := own_ge (hq.dirs.own d hd) g hob
    exact h2 g hgl (by omega) (fun e he hee => by have := hsep.2 e he g hee; omega)

end Go.Proofs.Ybulkakms
