import Derived.Test.YbulkakmsAJoin
namespace Go.Proofs.Ybulkakms
open Go.RowKit Go.Maps

/-- the spans that are looked for. -/
def mrg (tt : Int) (b p : List DS) : List DS := if tt < 0 then mergeL b p else b
def uni (tt : Int) (a b : Bool) : Bool := a || (decide (tt < 0) && b)

theorem After.kept {w w' : World} {B B' : Nat} {L L' : Nat → List DS} {h : Nat → Bool} (a : After w B B' L L' h) (hb : Below w.heap.size w w') : After w' B B' L L' h := by
  obtain ⟨M, Pm, M', U, V', mk, m', m2, nk, sk, n', s', n2, s2, c0, c1, d0, hd, hd', hp⟩ := a
  exact ⟨M, Pm, M', U, V', mk, m', m2, nk, sk, n', s', n2, s2, (hb.cell (p := ⟨B, 0, none⟩) (World.block_lt_of_cell? _ _ c0)).trans c0, (hb.cell (p := ⟨B, 1, none⟩) (World.block_lt_of_cell? _ _ c1)).trans c1, (hb.cell (p := ⟨B', 0, none⟩) (World.block_lt_of_cell? _ _ d0)).trans d0,
    hd.kept (hb.block _ hd.map.lt) (fun d h4 g e => hb.block g (own_lt (hd.own d h4) g e)) hb.size, hd'.kept (hb.block _ hd'.map.lt) (fun d h4 g e => hb.block g (own_lt (hd'.own d h4) g e)) hb.size, hp.of_block (hb.block _ hp.map.lt)⟩

/-- join, whichever way. -/
theorem join_both {w0 w1 w2 : World} {B B' n n2 n' n2' : Nat} {L L' : Nat → List DS} {h h' : Nat → Bool} (tt : Int) (hw : w0.heap.size ≤ w1.heap.size)
    (hp : PartE w1 w0.heap.size B L n h n2) (hb : Below w1.heap.size w1 w2) (hq : PartE w2 w1.heap.size B' L' n' h' n2') (hL : ∀ d, (L d).length ≤ 1024 ∧ (L' d).length ≤ 1024) (hn : n ≤ 1024) (hn2 : n2 ≤ 1024) :
    Calls Yba.prog 7 #[.pointer (some ⟨B, 0, none⟩), .iface 24 (.pointer (some ⟨B', 0, none⟩)), .int .i64 tt] w2 fun e w' => e = .returned .nilIface ∧ After w' B B' (fun d => mrg tt (L d) (L' d)) L' (fun k => uni tt (h k) (h' k)) ∧ Below w0.heap.size w2 w' := by
  obtain ⟨M, Pm, V, m, s, m2, s2, P⟩ := hp
  obtain ⟨M', Pm', V', m', s', m2', s2', Q⟩ := hq
  have hs := hb.size
  have P2 : Part w2 w0.heap.size B M Pm L V m n s h m2 n2 s2 :=
    ⟨(hb.cell (p := ⟨B, 0, none⟩) P.o4).trans P.c0, (hb.cell (p := ⟨B, 1, none⟩) P.o4).trans P.c1, P.dirs.kept (hb.block _ P.dirs.map.lt) (fun d h4 g e => hb.block g (own_lt (P.dirs.own d h4) g e)) hs, P.pars.of_block (hb.block _ P.pars.map.lt), P.rows, P.o1, P.o2, P.o3, Nat.lt_of_lt_of_le P.o4 hs⟩
  by_cases ht : tt < 0
  · refine (join_any B B' w0.heap.size w1.heap.size M Pm M' Pm' n s n2 s2 n' s' n2' s2' L L' V V' m m2 m' m2' h h' tt w2 ht (by omega) P2 Q ⟨P.o4, fun d h4 g e => own_lt (P.dirs.own d h4) g e⟩ hL hn hn2).mono ?_
    rintro e w' ⟨rfl, ha, hbb⟩
    refine ⟨rfl, ?_, hbb⟩
    have e1 : (fun d => mrg tt (L d) (L' d)) = fun d => mergeL (L d) (L' d) := by funext d; simp [mrg, ht]
    have e2 : (fun k => uni tt (h k) (h' k)) = fun k => h k || h' k := by funext d; simp [uni, ht]
    rw [e1, e2]
    exact ha
  · refine (join_nothing B (.iface 24 (.pointer (some ⟨B', 0, none⟩))) tt w2 (by omega)).mono ?_
    rintro e w' ⟨rfl, rfl⟩
    refine ⟨rfl, ?_, Below.refl _ _⟩
    have e1 : (fun d => mrg tt (L d) (L' d)) = L := by funext d; simp [mrg, ht]
    have e2 : (fun k => uni tt (h k) (h' k)) = h := by funext d; simp [uni, ht]
    rw [e1, e2]
    exact ⟨M, Pm, M', V, V', m, m', m2, n, s, n', s', n2, s2, P2.c0, P2.c1, Q.c0, P2.dirs, Q.dirs, P2.pars⟩

theorem app_nil (w : World) (ty : TypeId) : (Builtin.append_ #[29, 29] ty #[.slice none 0 0, .slice none 0 0]).run Yba.prog w = .ok (.slice none 0 0) w := by kernel_rfl

theorem owns_news {w : World} {base g n cap : Nat} {l : List DS} (h : w.ownsRow base 35 7 (.slice (some ⟨g, 0, none⟩) n cap) n (flat l)) : ∀ j u, (flat l)[j]? = some u → w.cell? ((⟨g, 0, none⟩ : Addr).add j) = some u := fun j u hu => by
  have hadd : (⟨g, 0, none⟩ : Addr).add j = ⟨g, j, none⟩ := by unfold Addr.add; split <;> simp_all
  have hj := (List.getElem?_eq_some_iff.1 hu).1
  rw [h.1] at hj
  rw [hadd, ← hu]
  exact h.cellAt j hj

/-- 'append([]dirSpan(nil), b...)'. -/
theorem app_first (w : World) (ty : TypeId) (base low : Nat) (v : Value) (l : List DS) (hl : l.length ≤ 1024) (h : w.ownsRow low 35 7 v l.length (flat l)) (hb : base ≤ w.heap.size) :
    ∃ v' w', (Builtin.append_ #[29, 29] ty #[.slice none 0 0, v]).run Yba.prog w = .ok v' w' ∧ w'.ownsRow base 35 7 v' l.length (flat l) ∧ w.grownBy w' none := by
  obtain ⟨i0, hi, hz0, hz1, hz2⟩ := info_parts info35
  have h0 := h
  obtain ⟨_, ⟨rfl, hn⟩ | ⟨g, cap, cur, rfl, _⟩⟩ := h
  · have : l = [] := List.length_eq_zero_iff.1 hn
    subst this
    exact ⟨_, w, app_nil w ty, World.ownsRow_nil w _ _ _, ⟨rfl, rfl, rfl, Nat.le_refl _, fun _ _ _ => rfl⟩⟩
  · obtain ⟨v', w', hr, h2, h3, _, h5⟩ := run_append_own_at (P := Yba.prog) w base 29 ty 35 i0 _ 7 56 Yba.underlying29 hi hz0 hz1 hz2 rfl (by decide) (.slice none 0 0) 0 [] (World.ownsRow_nil w _ _ _) ⟨g, 0, none⟩ l.length cap (flat l) (flat_length l) (owns_news h0) (flat_one l) (by unfold maxLen; omega) (by omega) hb
    exact ⟨v', w', hr, by simpa using h2, h3⟩
/-- an append whose run is known, at a plain region. -/
theorem wpList_append_eq {P : Program} {w w' : World} {ops : Array Oper} {rest : List Oper} {o : Oper} {a : Act} {Q : Exit → Act → World → Prop} {v u v' : Value} {t : TypeId} (hr : (Builtin.append_ #[t, t] o.type #[v, u]).run P w = .ok v' w') (hgd : o.guard = none) (s x : Operand)
    (ho : o.op = .call { callee := .builtin .append, args := #[s, x], argTypes := #[t, t] }) (hs : a.eval s = v) (hx : a.eval x = u)
    (h : wpList P ops Q rest (a.put o.dst v') w') : wpList P ops Q (o :: rest) a w :=
  wpList_plain hgd fun _ hK => by
    unfold Oper.wp execOp
    simp only [ho, resolve, invoke, builtin, Sem.run_bind, Sem.run_pure, Result.andThen_ok, List.map_toArray, List.map_cons, List.map_nil, hs, hx, hr]
    exact hK _ _ h
theorem World.ownsRow.lower {w : World} {base base' e size n : Nat} {v : Value} {xs : List Value} (h : w.ownsRow base e size v n xs) (hb : base' ≤ base) : w.ownsRow base' e size v n xs := by
  obtain ⟨h1, h2 | ⟨g, cap, cur, a1, a2, a3⟩⟩ := h
  · exact ⟨h1, .inl h2⟩
  · exact ⟨h1, .inr ⟨g, cap, cur, a1, Nat.le_trans hb a2, a3⟩⟩

/-- ve owns l, v2 reads as lp below low; nothing of wr has turned. -/
structure Exp (wr wx : World) (low : Nat) (v2 ve : Value) (l lp : List DS) : Prop where
  own : wx.ownsRow low 35 7 ve l.length (flat l)
  own2 : wx.ownsRow wr.heap.size 35 7 v2 lp.length (flat lp)
  low2 : ∀ g, v2.ownBlock = some g → g < low
  below : Below wr.heap.size wr wx
  ge : wr.heap.size ≤ low
  size : low ≤ wx.heap.size

theorem exp_start {wr w4 w5 w6 : World} {v2 ve : Value} {lb lp : List DS} (h4 : Below wr.heap.size wr w4) (h2 : w5.ownsRow w4.heap.size 35 7 v2 lp.length (flat lp)) (h5 : Below w4.heap.size w4 w5) (he : w6.ownsRow w5.heap.size 35 7 ve lb.length (flat lb)) (hg : w5.grownBy w6 none) :
    Exp wr w6 w5.heap.size v2 ve lb lp := by
  have s4 := h4.size
  have s5 := h5.size
  have s6 := hg.size
  refine ⟨he, owns_of (World.ownsRow.lower h2 s4) (fun g e => hg.block g (own_lt h2 g e) (by simp)), fun g e => own_lt h2 g e, (h4.trans (h5.mono s4)).grown hg (by omega) (fun k hk => by cases hk), by omega, s6⟩

/-- the same, ahead of the second append. -/
structure Rest (wr wx : World) (low : Nat) (v2 ve : Value) (l base rest lp : List DS) (gr off : Nat) : Prop where
  exp : Exp wr wx low v2 ve base lp
  news : ∀ i (hi : i < rest.length), ∀ k, k < 7 → wx.cell? ⟨gr, off + i * 7 + k, none⟩ = (rest[i]).v[k]?
  sum : base ++ rest = l

theorem Exp.drewN {wr wx : World} {low : Nat} {v2 ve : Value} {l lp : List DS} (h : Exp wr wx low v2 ve l lp) (q : Nat) : Exp wr (wx.drewN q) low v2 ve l lp := by
  have hb := h.below
  exact ⟨owns_of h.own (fun _ _ => rfl), owns_of h.own2 (fun _ _ => rfl), h.low2, ⟨hb.os, hb.tape, hb.output, hb.size, hb.block⟩, h.ge, h.size⟩

theorem Rest.onto {wr wc : World} {low g lv cv gq oq c2 n2 : Nat} {l c r : List DS} {y x : DS} (h : Rest wr wc low (.slice (some ⟨gq, 0, none⟩) n2 c2) (.slice (some ⟨g, 0, none⟩) lv cv) l (c ++ [y]) (x :: r) (x :: r) gq oq) (hl : lv = c.length + 1) :
    Rest wr ((wc.setCell ⟨g, c.length * 7 + 1, none⟩ (.int .i64 x.l)).setCell ⟨g, c.length * 7 + 6, none⟩ (.bool x.rn)) low (.slice (some ⟨gq, 0, none⟩) n2 c2) (.slice (some ⟨g, 0, none⟩) lv cv) (c ++ [y.onto x] ++ r) (c ++ [y.onto x]) r (x :: r) gq (oq + 7) := by
  have hgl : low ≤ g := own_ge h.exp.own g rfl
  have hql : gq < low := h.exp.low2 gq rfl
  have hge := h.exp.ge
  have hk : ∀ k, k ≠ g → ((wc.setCell ⟨g, c.length * 7 + 1, none⟩ (.int .i64 x.l)).setCell ⟨g, c.length * 7 + 6, none⟩ (.bool x.rn)).heap[k]? = wc.heap[k]? := fun k hk => (setCell_other _ _ hk).trans (setCell_other _ _ hk)
  have hsz : ((wc.setCell ⟨g, c.length * 7 + 1, none⟩ (.int .i64 x.l)).setCell ⟨g, c.length * 7 + 6, none⟩ (.bool x.rn)).heap.size = wc.heap.size := (setCell_size _ _).trans (setCell_size _ _)
  have e1 : (c ++ [y]).length = lv := by simp [hl]
  have e2 : (c ++ [y.onto x]).length = lv := by simp [hl]
  have ho := h.exp.own
  rw [e1] at ho
  refine ⟨⟨?_, owns_of h.exp.own2 (fun k e => ?_), h.exp.low2, ?_, hge, by rw [hsz]; exact h.exp.size⟩, ?_, rfl⟩
  · rw [e2, ← flat_onto]
    exact owns_set (owns_set ho _) _
  · have : gq = k := by simpa [Value.ownBlock] using e
    exact hk k (by omega)
  · have := h.exp.below
    exact ⟨this.os, this.tape, this.output, by rw [hsz]; exact this.size, fun k hkl => (hk k (by omega)).trans (this.block k hkl)⟩
  · intro i hi k hk7
    have := h.news (i + 1) (by simp; omega) k hk7
    rw [World.cell?_of_block (w := wc) (a := ⟨gq, _, none⟩) (hk gq (by omega)), show oq + 7 + i * 7 + k = oq + (i + 1) * 7 + k from by omega, this]
    rfl

theorem Rest.away {wr wx : World} {low : Nat} {v2 ve : Value} {l base rest lp : List DS} {gr off off' : Nat} (h : Rest wr wx low v2 ve l base rest lp gr off) (hr : rest.length = 0) : Rest wr wx low v2 ve l base rest lp gr off' :=
  ⟨h.exp, fun i hi => by omega, h.sum⟩

/-- 'exp = append(exp, rest...)'. -/
theorem Rest.app {wr wx : World} {low : Nat} {v2 ve : Value} {l base rest lp : List DS} {gr off : Nat} (h : Rest wr wx low v2 ve l base rest lp gr off) (ty : TypeId) (cr : Nat) (hl : l.length ≤ 4096) :
    ∃ v' w', (Builtin.append_ #[29, 29] ty #[ve, .slice (some ⟨gr, off, none⟩) rest.length cr]).run Yba.prog wx = .ok v' w' ∧ Exp wr w' low v2 v' l lp := by
  obtain ⟨i0, hi, hz0, hz1, hz2⟩ := info_parts info35
  have hs := congrArg List.length h.sum
  rw [List.length_append] at hs
  have hge := h.exp.ge
  have hsz := h.exp.size
  obtain ⟨v', w', hr, h2, h3, _, h5⟩ := run_append_own_at (P := Yba.prog) wx low 29 ty 35 i0 _ 7 56 Yba.underlying29 hi hz0 hz1 hz2 rfl (by decide) ve base.length (flat base) h.exp.own ⟨gr, off, none⟩ rest.length cr (flat rest) (flat_length rest) (flat_news h.news) (flat_one rest) (by unfold maxLen; omega) (by omega) h.exp.size
  have hve : ∀ k, ve.ownBlock = some k → low ≤ k := fun k e => own_ge h.exp.own k e
  refine ⟨v', w', hr, ⟨?_, owns_of h.exp.own2 (fun k e => h3.block k (own_lt h.exp.own2 k e) (fun x => by have := hve k x.symm; have := h.exp.low2 k e; omega)), h.exp.low2, h.exp.below.grown h3 (by omega) (fun k hk => by have := hve k hk; omega), hge, by have := h3.size; omega⟩⟩
  rw [← h.sum, List.length_append, flat_append]
  exact h2
theorem mrg_off (tt : Int) (lb lp : List DS) (h : (decide (tt < 0) && decide (0 < lp.length)) = false) : mrg tt lb lp = lb := by
  unfold mrg
  by_cases ht : tt < 0
  · rw [if_pos ht]
    cases lp with
    | nil => rfl
    | cons x r => simp [ht] at h
  · rw [if_neg ht]

theorem Seen.of_block_lt {w w' : World} {v : Value} {l : List DS} (h : Seen w v l) (hk : ∀ k, k < w.heap.size → w'.heap[k]? = w.heap[k]?) (hs : w.heap.size ≤ w'.heap.size) : Seen w' v l :=
  h.kept (fun g _ _ _ _ hg => hk g hg) hs

theorem zero39 (w : World) : (zeroValue 39).run Yba.prog w = .ok (.agg #[]) w := by kernel_rfl

theorem after_look {w : World} {B B' : Nat} {L L' : Nat → List DS} {h : Nat → Bool} (a : After w B B' L L' h) {d : Nat} (hd : d < 4) :
    ∃ M M' u v, w.cell? ⟨B, 0, none⟩ = some (.map (some M)) ∧ w.cell? ⟨B', 0, none⟩ = some (.map (some M')) ∧
      (∀ (o : Obj) (q : Nat), (Instr.lookup 37 (.map (some M)) (.agg #[.int .u64 0, .int .u64 d]) true).run Yba.prog ((w.alloc o).drewN q) = .ok (.tuple #[u, .bool (!(L d).isEmpty)]) ((w.alloc o).drewN q)) ∧
      (∀ (o : Obj) (q : Nat), (Instr.lookup 37 (.map (some M')) (.agg #[.int .u64 0, .int .u64 d]) false).run Yba.prog ((w.alloc o).drewN q) = .ok v ((w.alloc o).drewN q)) ∧ Seen w u (L d) ∧ Seen w v (L' d) := by
  obtain ⟨M, Pm, M', U, V', mk, m', m2, nk, sk, n', s', n2, s2, c0, c1, d0, hD, hD', hp⟩ := a
  obtain ⟨kl, hkl⟩ := key33 0 d (WalkArith.wf_u64 (by omega)) (WalkArith.wf_u64 (by omega))
  refine ⟨M, M', U d, V' d, c0, d0, fun o q => ?_, fun o q => ?_, Seen.of_owns (hD.own d hd), Seen.of_owns (hD'.own d hd)⟩
  · have := ((hD.alloc o).map.of_block (w' := (w.alloc o).drewN q) rfl).look_ok keyed33 (t := 37) Yba.underlying37 (zero29 _) hkl
    have e : (mk (refV 0 d)).isSome = !(L d).isEmpty := by
      by_cases x : L d = []
      · rw [(hD.gone d hd x).1, x]; rfl
      · rw [hD.here d hd x]
        cases hl : L d with
        | nil => exact absurd hl x
        | cons _ _ => rfl
    rw [hD.value hd, e] at this
    exact this
  · have := ((hD'.alloc o).map.of_block (w' := (w.alloc o).drewN q) rfl).look keyed33 (t := 37) Yba.underlying37 (zero29 _) hkl
    rw [hD'.value hd] at this
    exact this

theorem after_len {w : World} {B B' : Nat} {L L' : Nat → List DS} {h : Nat → Bool} (a : After w B B' L L' h) :
    ∃ M Pm, w.cell? ⟨B, 0, none⟩ = some (.map (some M)) ∧ w.cell? ⟨B, 1, none⟩ = some (.map (some Pm)) ∧
      (∀ ty, (Builtin.len_ #[37] ty #[.map (some M)]).run Yba.prog w = .ok (.int .i64 (cnt (fun e => !(L e).isEmpty) 4 : Nat)) w) ∧
      (∀ ty, (Builtin.len_ #[38] ty #[.map (some Pm)]).run Yba.prog w = .ok (.int .i64 (cnt h 8 : Nat)) w) ∧
      ∀ k : Nat, k < 8 → (Instr.lookup 38 (.map (some Pm)) (.agg #[.int .u64 k, .int .u64 0]) true).run Yba.prog w = .ok (.tuple #[.agg #[], .bool (h k)]) w := by
  obtain ⟨M, Pm, M', U, V', mk, m', m2, nk, sk, n', s', n2, s2, c0, c1, d0, hD, hD', hp⟩ := a
  refine ⟨M, Pm, c0, c1, fun ty => ?_, fun ty => ?_, fun k hk => ?_⟩
  · rw [hD.map.len Yba.underlying37 ty]
    congr 3
    rw [hD.cnt]
    simp only [Ybulkakms.cnt, Nat.zero_add]
    have e : ∀ l : List DS, (if (!l.isEmpty) = true then 1 else 0) = if l = [] then 0 else 1 := fun l => by cases l <;> simp
    simp only [e]
  · rw [hp.map.len Yba.underlying38 ty, hp.cnt]
  · obtain ⟨kl, hkl⟩ := key33 k 0 (WalkArith.wf_u64 (by omega)) (WalkArith.wf_u64 (by omega))
    rw [hp.map.look_ok keyed33 (t := 38) Yba.underlying38 (zero39 w) hkl, hp.here k hk]
    cases h k <;> rfl
end Go.Proofs.Ybulkakms
