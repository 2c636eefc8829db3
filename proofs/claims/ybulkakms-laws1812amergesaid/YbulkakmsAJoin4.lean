import Derived.Test.YbulkakmsAJoin3
namespace Go.Proofs.Ybulkakms
open Go.RowKit Go.Maps

theorem Dirs.congr {w : World} {base M n s : Nat} {L L2 : Nat → List DS} {V : Nat → Value} {m : Value → Option Value} (h : Dirs w base M L V m n s) (e : ∀ d, d < 4 → L d = L2 d) : Dirs w base M L2 V m n s :=
  ⟨h.map, fun d hd => by rw [← e d hd]; exact h.here d hd, fun d hd => by rw [← e d hd]; exact h.gone d hd, h.oth, fun d hd => by rw [← e d hd]; exact h.own d hd, h.apart, h.lt, h.size, by
    rw [← e 0 (by omega), ← e 1 (by omega), ← e 2 (by omega), ← e 3 (by omega)]; exact h.cnt⟩

theorem Pars.congr {w : World} {M n s : Nat} {h h2 : Nat → Bool} {m : Value → Option Value} (p : Pars w M h m n s) (e : ∀ k, k < 8 → h k = h2 k) : Pars w M h2 m n s :=
  ⟨p.map, fun k hk => by rw [← e k hk]; exact p.here k hk, p.oth, by
    rw [p.cnt]
    simp only [Ybulkakms.cnt, e 0 (by omega), e 1 (by omega), e 2 (by omega), e 3 (by omega), e 4 (by omega), e 5 (by omega), e 6 (by omega), e 7 (by omega)]⟩

/-- behind the first range. -/
structure Between (w : World) (B M Pm B' M' Pm' : Nat) (L L' : Nat → List DS) (U V' : Nat → Value) (mk m' m2 m2' : Value → Option Value) (nk sk n' s' n2 s2 n2' s2' : Nat) (h h' : Nat → Bool) : Prop where
  c0 : w.cell? ⟨B, 0, none⟩ = some (.map (some M))
  c1 : w.cell? ⟨B, 1, none⟩ = some (.map (some Pm))
  d0 : w.cell? ⟨B', 0, none⟩ = some (.map (some M'))
  d1 : w.cell? ⟨B', 1, none⟩ = some (.map (some Pm'))
  dirs : Dirs w (M + 1) M L U mk nk sk
  dirs' : Dirs w (M' + 1) M' L' V' m' n' s'
  pars : Pars w Pm h m2 n2 s2
  pars' : Pars w Pm' h' m2' n2' s2'
  u0 : ∀ d, d < 4 → (U d).ownBlock ≠ some Pm
  u1 : ∀ d, d < 4 → (V' d).ownBlock ≠ some Pm
  e0 : M ≠ Pm
  e1 : M' ≠ Pm
  e2 : B ≠ Pm
  e3 : B' ≠ Pm
  e4 : Pm' ≠ Pm

theorem between {lo lo' B M Pm n s n2 s2 B' M' Pm' n' s' n2' s2' : Nat} {L L' : Nat → List DS} {V V' : Nat → Value} {m m2 m' m2' : Value → Option Value} {h h' : Nat → Bool} {w ws wr : World}
    (hp : Part w lo B M Pm L V m n s h m2 n2 s2) (hq : Part w lo' B' M' Pm' L' V' m' n' s' h' m2' n2' s2') (hsep : B < lo' ∧ ∀ d, d < 4 → ∀ g, (V d).ownBlock = some g → g < lo')
    {todo : Value → Prop} {cnt : Nat} {K : Nat → List DS} {U : Nat → Value} {mk : Value → Option Value} {nk sk : Nat}
    (hj : Joining lo w ws wr M w.heap.size L L' V M' n' m' todo cnt K U mk nk sk) (hg : w.grownBy ws none) (hws : ws.heap.size = w.heap.size + 1) (hdone : ∀ key kl, keyOf Yba.prog 33 key = some kl → ¬ todo key) :
    Between wr B M Pm B' M' Pm' (fun d => mergeL (L d) (L' d)) L' U V' mk m' m2 m2' nk sk n' s' n2 s2 n2' s2' h h' := by
  have o1 := hp.o1
  have o2 := hp.o2
  have o3 := hp.o3
  have o4 := hp.o4
  have p1 := hq.o1
  have p2 := hq.o2
  have p3 := hq.o3
  have p4 := hq.o4
  have sz := hj.size
  have s0 := hsep.1
  have hb : ∀ k, k < w.heap.size → ws.heap[k]? = w.heap[k]? := fun k hk => hg.block k hk (by simp)
  have h2 : ∀ k, k < w.heap.size → k ≠ M → (∀ d, d < 4 → (V d).ownBlock ≠ some k) → wr.heap[k]? = w.heap[k]? := fun k hk hM hV =>
    (hj.frame k (by omega) hM (by omega) hV).trans (hb k hk)
  have hB := h2 B (by omega) (by omega) (fun d hd e => (hp.rows d hd B e).2 rfl)
  have hPm := h2 Pm (by omega) (by omega) (fun d hd e => (hp.rows d hd Pm e).1 rfl)
  have hQ : ∀ k, lo' ≤ k → k < w.heap.size → wr.heap[k]? = w.heap[k]? := fun k h1 h3 => h2 k h3 (by omega) (fun d hd e => by have := hsep.2 d hd k e; omega)
  have hVg : ∀ d, d < 4 → ∀ g, (V' d).ownBlock = some g → M' + 1 ≤ g ∧ g < w.heap.size := fun d hd g e => ⟨own_ge (hq.dirs.own d hd) g e, own_lt (hq.dirs.own d hd) g e⟩
  refine ⟨(World.cell?_of_block (w := w) (a := ⟨B, 0, none⟩) hB).trans hp.c0, (World.cell?_of_block (w := w) (a := ⟨B, 1, none⟩) hB).trans hp.c1, (World.cell?_of_block (w := w) (a := ⟨B', 0, none⟩) (hQ B' (by omega) (by omega))).trans hq.c0, (World.cell?_of_block (w := w) (a := ⟨B', 1, none⟩) (hQ B' (by omega) (by omega))).trans hq.c1, hj.dirs.congr (fun d hd => (hj.tail d hd).2 ?_), hq.dirs.kept (hQ M' (by omega) (by omega)) (fun d hd g e => hQ g (by have := hVg d hd g e; omega) (hVg d hd g e).2) (by omega), hp.pars.of_block hPm, hq.pars.of_block (hQ Pm' (by omega) (by omega)), ?_, ?_, by omega, by omega, by omega, by omega, by omega⟩
  · obtain ⟨kl, hkl⟩ := key33 0 d (WalkArith.wf_u64 (by omega)) (WalkArith.wf_u64 (by omega))
    exact hdone _ kl hkl
  · intro d hd e
    rcases hj.rows d hd Pm e with ⟨f, hf, hv⟩ | hv
    · exact (hp.rows f hf Pm hv).1 rfl
    · omega
  · intro d hd e
    have := hVg d hd Pm e
    omega

/-- the second range under way. -/
structure Uniting (lo : Nat) (w ws wz : World) (Pm r : Nat) (h h' : Nat → Bool) (Pm' n' : Nat) (m' : Value → Option Value) (todo : Value → Prop) (cnt : Nat) (H : Nat → Bool) (mz : Value → Option Value) (nz sz : Nat) : Prop where
  pars : Pars wz Pm H mz nz sz
  tail : ∀ k : Nat, k < 8 → (todo (refV k 0) → H k = h k) ∧ (¬ todo (refV k 0) → H k = (h k || h' k))
  frame : ∀ k, k < ws.heap.size → k ≠ Pm → k ≠ r → wz.heap[k]? = ws.heap[k]?
  size : ws.heap.size ≤ wz.heap.size
  rng : RangeAt wz Yba.prog 33 Pm' r n' m' todo cnt
  below : Below lo w wz

def UniteE (lo : Nat) (w ws wz : World) (Pm r : Nat) (h h' : Nat → Bool) (Pm' n' : Nat) (m' : Value → Option Value) (top g : Nat) : Prop :=
  ∃ todo cnt H mz nz sz, Uniting lo w ws wz Pm r h h' Pm' n' m' todo cnt H mz nz sz ∧ nz + cnt ≤ top ∧ cnt = g

theorem uniting_start {lo Pm n2 s2 Pm' n2' s2' : Nat} {m2 m2' : Value → Option Value} {h h' : Nat → Bool} {w wr ws : World} (hp : Pars wr Pm h m2 n2 s2) (hq : Pars wr Pm' h' m2' n2' s2') (hb : Below lo w wr) (hlo : lo ≤ wr.heap.size)
    (hr : RangeAt ws Yba.prog 33 Pm' wr.heap.size n2' m2' (fun key => (m2' key).isSome = true) s2') (hg : wr.grownBy ws none) :
    Uniting lo w ws ws Pm wr.heap.size h h' Pm' n2' m2' (fun key => (m2' key).isSome = true) s2' h m2 n2 s2 := by
  have hbk : ∀ k, k < wr.heap.size → ws.heap[k]? = wr.heap[k]? := fun k hk => hg.block k hk (by simp)
  refine ⟨hp.of_block (hbk _ hp.map.lt), fun k hk => ⟨fun _ => rfl, fun hn => ?_⟩, fun _ _ _ _ => rfl, Nat.le_refl _, hr, hb.grown hg hlo (fun k hk => by cases hk)⟩
  rw [hq.here k hk] at hn
  cases e : h' k
  · simp
  · rw [e] at hn; exact absurd rfl hn

theorem Pars.key_is {w : World} {M n s : Nat} {h : Nat → Bool} {m : Value → Option Value} (p : Pars w M h m n s) {key v : Value} (hk : m key = some v) : ∃ k : Nat, k < 8 ∧ key = refV k 0 ∧ h k = true ∧ v = .agg #[] := by
  by_cases x : ∃ k : Nat, k < 8 ∧ key = refV k 0
  · obtain ⟨k, hk8, rfl⟩ := x
    rw [p.here k hk8] at hk
    cases e : h k
    · rw [e] at hk; cases hk
    · rw [e] at hk
      cases hk
      exact ⟨k, hk8, rfl, e, rfl⟩
  · rw [p.oth key (fun d hd e => x ⟨d, hd, e⟩)] at hk
    cases hk

/-- the store of one parent, and the round's end. -/
theorem unite_step {lo Pm r Pm' n' cnt cnt' top : Nat} {m' mz : Value → Option Value} {h h' H : Nat → Bool} {w ws wz w1 : World} {todo : Value → Prop} {nz sz : Nat} (o : Obj)
    (hu : Uniting lo w ws wz Pm r h h' Pm' n' m' todo cnt H mz nz sz) (hgr : wz.grownBy w1 (some r)) (hsz : w1.heap.size = wz.heap.size) (hPr : Pm ≠ r) (hPP : Pm' ≠ Pm) (hlP : lo ≤ Pm) (hlr : lo ≤ r) {j : Nat} (hj : j < 8) (hh : h' j = true)
    (hrg : RangeAt w1 Yba.prog 33 Pm' r n' m' (fun x => todo x ∧ x ≠ refV j 0) cnt') (hPm' : Pm' < w1.heap.size) (hc : cnt' < cnt) (htop : nz + cnt ≤ top) (hmax : top < maxLen) :
    ∃ w4, (Instr.mapUpdate 38 (.map (some Pm)) (refV j 0) (.agg #[])).run Yba.prog (w1.alloc o).drew = .ok () w4 ∧ (∀ k, k ≠ Pm → w4.heap[k]? = (w1.alloc o).heap[k]?) ∧ Hid (UniteE lo w ws w4 Pm r h h' Pm' n' m' top cnt') := by
  have hPl := hu.pars.map.lt
  have hrl := hrg.lt
  have hk1 : ∀ k, k < w1.heap.size → (w1.alloc o).drew.heap[k]? = w1.heap[k]? := fun k hk => Below.heap_alloc _ _ _ hk
  have hP1 : w1.heap[Pm]? = wz.heap[Pm]? := hgr.block Pm hPl (fun e => hPr (Option.some.inj e))
  obtain ⟨w4, hrun, ⟨o4, hw4⟩, m4, s4, hp4⟩ := (hu.pars.of_block (w' := (w1.alloc o).drew) ((hk1 Pm (by omega)).trans hP1)).put (by omega) hj
  have h4 : ∀ k, k ≠ Pm → w4.heap[k]? = (w1.alloc o).heap[k]? := fun k hk => by rw [hw4]; exact setBlock_other _ _ hk
  have hs4 : w4.heap.size = w1.heap.size + 1 := by rw [hw4]; simp [Go.ChangeMaps.setBlock]
  have hsz0 := hu.size
  refine ⟨w4, hrun, h4, _, cnt', upd H j true, m4, nz + 1, s4, ⟨hp4, ?_, ?_, by omega, hrg.of_blocks ((h4 Pm' hPP).trans (hk1 Pm' hPm')) ((h4 r (Ne.symm hPr)).trans (hk1 r hrl)), ?_⟩, by omega, rfl⟩
  · intro k hk
    by_cases x : k = j
    · subst x
      rw [upd_same]
      exact ⟨fun hx => absurd rfl hx.2, fun _ => by rw [hh]; simp⟩
    · rw [upd_other _ _ _ x]
      have hr : refV k 0 ≠ refV j 0 := fun e => x (by have := (refV_inj e).1; omega)
      exact ⟨fun hx => (hu.tail k hk).1 hx.1, fun hx => (hu.tail k hk).2 (fun ht => hx ⟨ht, hr⟩)⟩
  · intro k hk hkP hkr
    rw [h4 k hkP]
    exact (hk1 k (by omega)).trans ((hgr.block k (by omega) (fun e => hkr (Option.some.inj e))).trans (hu.frame k hk hkP hkr))
  · have b1 : Below lo wz w1 := (Below.refl _ _).grown hgr (by omega) (fun k hk => by injection hk with hk; omega)
    have b2 : Below lo w1 (w1.alloc o) := (Below.refl _ _).alloc (by omega) _
    have b4 : Below lo (w1.alloc o) w4 := by rw [hw4]; exact ⟨rfl, rfl, rfl, by simp [Go.ChangeMaps.setBlock], fun k hk => setBlock_other _ _ (by omega)⟩
    exact ((hu.below.trans b1).trans b2).trans b4

theorem cnt_le (h : Nat → Bool) (n : Nat) : cnt h n ≤ n := by
  induction n with
  | zero => exact Nat.le_refl _
  | succ n ih => rw [cnt]; split <;> omega

/-- WHAT STANDS BEHIND join. -/
def After (w : World) (B B' : Nat) (L L' : Nat → List DS) (h : Nat → Bool) : Prop :=
  ∃ M Pm M' U V' mk m' m2 nk sk n' s' n2 s2, w.cell? ⟨B, 0, none⟩ = some (.map (some M)) ∧ w.cell? ⟨B, 1, none⟩ = some (.map (some Pm)) ∧ w.cell? ⟨B', 0, none⟩ = some (.map (some M')) ∧ Dirs w (M + 1) M L U mk nk sk ∧ Dirs w (M' + 1) M' L' V' m' n' s' ∧ Pars w Pm h m2 n2 s2

theorem after_end {lo B M Pm B' M' Pm' : Nat} {L L' : Nat → List DS} {U V' : Nat → Value} {mk m' m2 m2' mz : Value → Option Value} {nk sk n' s' n2 s2 n2' s2' : Nat} {h h' H : Nat → Bool} {w wr ws wz : World} {todo : Value → Prop} {cnt nz sz : Nat}
    (hb : Between wr B M Pm B' M' Pm' L L' U V' mk m' m2 m2' nk sk n' s' n2 s2 n2' s2' h h') (hu : Uniting lo w ws wz Pm wr.heap.size h h' Pm' n2' m2' todo cnt H mz nz sz) (hg : wr.grownBy ws none) (hdone : ∀ key kl, keyOf Yba.prog 33 key = some kl → ¬ todo key) :
    After wz B B' L L' (fun k => h k || h' k) := by
  have hs := hg.size
  have hsz := hu.size
  have hk : ∀ k, k < wr.heap.size → k ≠ Pm → wz.heap[k]? = wr.heap[k]? := fun k hk hne => (hu.frame k (by omega) hne (by omega)).trans (hg.block k hk (by simp))
  have hB := hk B (World.block_lt_of_cell? _ _ hb.c0) hb.e2
  have hB' := hk B' (World.block_lt_of_cell? _ _ hb.d0) hb.e3
  refine ⟨M, Pm, M', U, V', mk, m', mz, nk, sk, n', s', nz, sz, (World.cell?_of_block (w := wr) (a := ⟨B, 0, none⟩) hB).trans hb.c0, (World.cell?_of_block (w := wr) (a := ⟨B, 1, none⟩) hB).trans hb.c1, (World.cell?_of_block (w := wr) (a := ⟨B', 0, none⟩) hB').trans hb.d0, ?_, ?_, hu.pars.congr (fun k hk => (hu.tail k hk).2 ?_)⟩
  · exact hb.dirs.kept (hk M hb.dirs.map.lt hb.e0) (fun d hd g e => hk g (own_lt (hb.dirs.own d hd) g e) (fun x => hb.u0 d hd (x ▸ e))) (by omega)
  · exact hb.dirs'.kept (hk M' hb.dirs'.map.lt hb.e1) (fun d hd g e => hk g (own_lt (hb.dirs'.own d hd) g e) (fun x => hb.u1 d hd (x ▸ e))) (by omega)
  · obtain ⟨kl, hkl⟩ := key33 k 0 (WalkArith.wf_u64 (by omega)) (WalkArith.wf_u64 (by omega))
    exact hdone _ kl hkl
theorem threeP {u v : World} {B A M d : Nat} (hB : v.heap[B]? = u.heap[B]?) (hA : v.heap[A]? = u.heap[A]?) (h : u.cell? ⟨B, 1, none⟩ = some (.map (some M)) ∧ u.cell? ⟨A, 0, none⟩ = some (.int .u64 d) ∧ u.cell? ⟨A, 1, none⟩ = some (.int .u64 0)) :
    v.cell? ⟨B, 1, none⟩ = some (.map (some M)) ∧ v.cell? ⟨A, 0, none⟩ = some (.int .u64 d) ∧ v.cell? ⟨A, 1, none⟩ = some (.int .u64 0) :=
  ⟨(World.cell?_of_block (w := u) (a := ⟨B, 1, none⟩) hB).trans h.1, (World.cell?_of_block (w := u) (a := ⟨A, 0, none⟩) hA).trans h.2.1, (World.cell?_of_block (w := u) (a := ⟨A, 1, none⟩) hA).trans h.2.2⟩
end Go.Proofs.Ybulkakms
