import Derived.Test.YbulkakmsAJoin2
namespace Go.Proofs.Ybulkakms
open Go.RowKit Go.Maps

/-- an append in a region that draws, the part behind perhaps empty. -/
theorem step_append_at {P : Program} {w : World} {ops : Array Oper} {o : Oper} {a : Act} {K : Act → World → Prop} {Q : Exit → Act → World → Prop} {E : Prop} (hgd : o.guard = none) (s x : Operand) (t : TypeId)
    (ho : o.op = .call { callee := .builtin .append, args := #[s, x], argTypes := #[t, t] })
    (base : Nat) (e : TypeId) (i : TypeInfo) (z : Value) (size bytes : Nat) (ht : P.underlying t = some (.slice e)) (hi : P.info? e = some i) (hz : i.zero = some z)
    (hsize : i.size = size) (hby : i.bytes = bytes) (hzs : z.cells.size = size) (hsz : 0 < size)
    (v : Value) (n : Nat) (xs : List Value) (hs : a.eval s = v) (hown : w.ownsRow base e size v n xs)
    (ad : Addr) (m c : Nat) (news : List Value) (hx : a.eval x = .slice (some ad) m c) (hl : news.length = m * size) (hnews : ∀ j u, news[j]? = some u → w.cell? (ad.add j) = some u) (h1 : ∀ u ∈ news, u.oneCell' = true)
    (h63 : n + m ≤ maxLen) (hbytes : (n + m) * bytes ≤ 140737488355328) (hbase : base ≤ w.heap.size)
    (h : ∀ v' w', w'.ownsRow base e size v' (n + m) (xs ++ news) → w.grownBy w' v.ownBlock → (v'.ownBlock = v.ownBlock ∨ v'.ownBlock = some w.heap.size) → K (a.put o.dst v') w') :
    if Region.wanted o (yielded ops a.tmps) = true then Oper.wp P o a w K Q else E := by
  have hw : Region.wanted o (yielded ops a.tmps) = true := by simp [Region.wanted, hgd]
  rw [if_pos hw]
  obtain ⟨v', w', hr, h2, h3, _, h5⟩ := run_append_own_at (P := P) w base t o.type e i z size bytes ht hi hz hsize hby hzs hsz v n xs hown ad m c news hl hnews h1 h63 hbytes hbase
  unfold Oper.wp execOp
  simp only [ho, resolve, invoke, builtin, Sem.run_bind, Sem.run_pure, Result.andThen_ok, List.map_toArray, List.map_cons, List.map_nil, hs, hx, hr]
  exact h v' w' h2 h3 h5

theorem flat_one (l : List DS) : ∀ u ∈ flat l, u.oneCell' = true := by
  intro u hu
  rw [flat, List.mem_flatMap] at hu
  obtain ⟨d, _, hd⟩ := hu
  exact ds_one _ u hd

theorem flat_news {w : World} {g off : Nat} {l : List DS} (h : ∀ i (hi : i < l.length), ∀ k, k < 7 → w.cell? ⟨g, off + i * 7 + k, none⟩ = (l[i]).v[k]?) :
    ∀ j u, (flat l)[j]? = some u → w.cell? ((⟨g, off, none⟩ : Addr).add j) = some u := fun j u hu => by
  have hadd : (⟨g, off, none⟩ : Addr).add j = ⟨g, off + j, none⟩ := by unfold Addr.add; split <;> simp_all
  have hlt : j < l.length * 7 := by rw [← flat_length]; exact (List.getElem?_eq_some_iff.1 hu).1
  have hj : j = j / 7 * 7 + j % 7 := by omega
  have hi : j / 7 < l.length := by omega
  rw [hadd, ← hu, hj, flat_get l (j / 7) (j % 7) hi (by omega), ← h (j / 7) hi (j % 7) (by omega)]
  congr 2
  omega

theorem eql33 (p p' : Int) (w : World) : (binOp .eql 33 (.agg #[.int .u64 0, .int .u64 p]) (.agg #[.int .u64 0, .int .u64 p'])).run Yba.prog w = .ok (.bool (p == p')) w := by
  go_simp
  by_cases h : p = p' <;> simp [h]

/-- the world ahead of the append: base owned by vd, rest read at (gr, off). -/
structure Mid (lo B M A d : Nat) (w1 Wx : World) (vd : Value) (l base rest : List DS) (gr off : Nat) : Prop where
  cB : Wx.cell? ⟨B, 0, none⟩ = some (.map (some M))
  c0 : Wx.cell? ⟨A, 0, none⟩ = some (.int .u64 0)
  c1 : Wx.cell? ⟨A, 1, none⟩ = some (.int .u64 d)
  own : Wx.ownsRow (M + 1) 35 7 vd base.length (flat base)
  kept : ∀ k, k < w1.heap.size → vd.ownBlock ≠ some k → Wx.heap[k]? = w1.heap[k]?
  size : w1.heap.size ≤ Wx.heap.size
  below : Below lo w1 Wx
  news : ∀ i (hi : i < rest.length), ∀ k, k < 7 → Wx.cell? ⟨gr, off + i * 7 + k, none⟩ = (rest[i]).v[k]?
  sum : base ++ rest = l

theorem three {u v : World} {B A M d : Nat} (hB : v.heap[B]? = u.heap[B]?) (hA : v.heap[A]? = u.heap[A]?) (h : u.cell? ⟨B, 0, none⟩ = some (.map (some M)) ∧ u.cell? ⟨A, 0, none⟩ = some (.int .u64 0) ∧ u.cell? ⟨A, 1, none⟩ = some (.int .u64 d)) :
    v.cell? ⟨B, 0, none⟩ = some (.map (some M)) ∧ v.cell? ⟨A, 0, none⟩ = some (.int .u64 0) ∧ v.cell? ⟨A, 1, none⟩ = some (.int .u64 d) :=
  ⟨(World.cell?_of_block (w := u) (a := ⟨B, 0, none⟩) hB).trans h.1, (World.cell?_of_block (w := u) (a := ⟨A, 0, none⟩) hA).trans h.2.1, (World.cell?_of_block (w := u) (a := ⟨A, 1, none⟩) hA).trans h.2.2⟩

theorem setCell_other (u : World) {g k j : Nat} (v : Value) (h : k ≠ g) : (u.setCell ⟨g, j, none⟩ v).heap[k]? = u.heap[k]? := by
  simp [World.setCell, Array.getElem?_modify, Ne.symm h]
theorem setCell_size (u : World) {g j : Nat} (v : Value) : (u.setCell ⟨g, j, none⟩ v).heap.size = u.heap.size := by
  simp [World.setCell]

theorem owns_frozen {w : World} {base e size n g cap : Nat} {xs : List Value} (h : w.ownsRow base e size (.slice (some ⟨g, 0, none⟩) n cap) n xs) (j : Nat) : w.frozen? ⟨g, j, none⟩ = false := by
  obtain ⟨hl, h0 | ⟨g', cap', cur, hv, hb, hh, h1, h2, h3, h4⟩⟩ := h
  · cases h0.1
  · injection hv with hv1 hv2 hv3
    injection hv1 with hv1
    injection hv1 with hv1 _ _
    subst hv1
    exact frozen_of_row _ _ _ _ _ hh

theorem Mid.onto {lo B M A d g lv cv gq oq : Nat} {w1 wc : World} {l c r : List DS} {y x : DS} (h : Mid lo B M A d w1 wc (.slice (some ⟨g, 0, none⟩) lv cv) l (c ++ [y]) (x :: r) gq oq)
    (hl : lv = c.length + 1) (hB : B ≠ g) (hA : A ≠ g) (hq : gq ≠ g) (hlo : lo ≤ g) :
    Mid lo B M A d w1 ((wc.setCell ⟨g, c.length * 7 + 1, none⟩ (.int .i64 x.l)).setCell ⟨g, c.length * 7 + 6, none⟩ (.bool x.rn)).drew (.slice (some ⟨g, 0, none⟩) lv cv) (c ++ [y.onto x] ++ r) (c ++ [y.onto x]) r gq (oq + 7) := by
  have hk : ∀ k, k ≠ g → ((wc.setCell ⟨g, c.length * 7 + 1, none⟩ (.int .i64 x.l)).setCell ⟨g, c.length * 7 + 6, none⟩ (.bool x.rn)).drew.heap[k]? = wc.heap[k]? := fun k hk => by
    exact (setCell_other _ _ hk).trans (setCell_other _ _ hk)
  have hsz : ((wc.setCell ⟨g, c.length * 7 + 1, none⟩ (.int .i64 x.l)).setCell ⟨g, c.length * 7 + 6, none⟩ (.bool x.rn)).drew.heap.size = wc.heap.size := by
    exact (setCell_size _ _).trans (setCell_size _ _)
  have e1 : (c ++ [y]).length = lv := by simp [hl]
  have e2 : (c ++ [y.onto x]).length = lv := by simp [hl]
  have ho := h.own
  rw [e1] at ho
  refine ⟨(World.cell?_of_block (w := wc) (a := ⟨B, 0, none⟩) (hk B hB)).trans h.cB, (World.cell?_of_block (w := wc) (a := ⟨A, 0, none⟩) (hk A hA)).trans h.c0, (World.cell?_of_block (w := wc) (a := ⟨A, 1, none⟩) (hk A hA)).trans h.c1, ?_, ?_, by rw [hsz]; exact h.size, ?_, ?_, rfl⟩
  · rw [e2, ← flat_onto]
    exact owns_of (owns_set (owns_set ho _) _) (fun _ _ => rfl)
  · intro k hkl hne
    exact (hk k (fun e => hne (by rw [e]; rfl))).trans (h.kept k hkl hne)
  · have := h.below
    exact ⟨this.os, this.tape, this.output, by rw [hsz]; exact this.size, fun k hkl => (hk k (by omega)).trans (this.block k hkl)⟩
  · intro i hi k hk7
    have := h.news (i + 1) (by simp; omega) k hk7
    rw [World.cell?_of_block (w := wc) (a := ⟨gq, _, none⟩) (hk gq hq), show oq + 7 + i * 7 + k = oq + (i + 1) * 7 + k from by omega, this]
    rfl
theorem Mid.away {lo B M A d gq oq oq' : Nat} {w1 wc : World} {vd : Value} {l c r : List DS} (h : Mid lo B M A d w1 wc vd l c r gq oq) (hr : r.length = 0) : Mid lo B M A d w1 wc vd l c r gq oq' :=
  ⟨h.cB, h.c0, h.c1, h.own, h.kept, h.size, h.below, fun i hi => by omega, h.sum⟩
end Go.Proofs.Ybulkakms
