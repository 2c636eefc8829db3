import Derived.Test.YbulkakmsAJoin1
namespace Go.Proofs.Ybulkakms
open Go.RowKit Go.Maps

def JoinE (lo : Nat) (w ws wr : World) (M r : Nat) (L L' : Nat → List DS) (V : Nat → Value) (M' n' : Nat) (m' : Value → Option Value) (top : Nat) (g : Nat) : Prop :=
  ∃ todo cnt K U mk nk sk, Joining lo w ws wr M r L L' V M' n' m' todo cnt K U mk nk sk ∧ nk + cnt ≤ top ∧ cnt = g

/-- behind the append: the store into the map, and the round's end. -/
theorem join_store {lo lo' B M Pm n s n2 s2 B' M' Pm' n' s' n2' s2' : Nat} {L L' : Nat → List DS} {V V' : Nat → Value} {m m2 m' m2' : Value → Option Value} {h h' : Nat → Bool} {w ws wr w1 Wx w3 : World}
    (hp : Part w lo B M Pm L V m n s h m2 n2 s2) (hq : Part w lo' B' M' Pm' L' V' m' n' s' h' m2' n2' s2') (hsep : B < lo' ∧ ∀ d, d < 4 → ∀ g, (V d).ownBlock = some g → g < lo') (hlo : lo ≤ w.heap.size)
    {todo : Value → Prop} {cnt cnt' top : Nat} {K : Nat → List DS} {U : Nat → Value} {mk : Value → Option Value} {nk sk : Nat}
    (hj : Joining lo w ws wr M w.heap.size L L' V M' n' m' todo cnt K U mk nk sk) (hgr : wr.grownBy w1 (some w.heap.size)) (hsz : w1.heap.size = wr.heap.size) (hws : ws.heap.size = w.heap.size + 1) {d : Nat} (hd : d < 4)
    (hDw : Dirs w1 (M + 1) M K U mk nk sk) (hrg : RangeAt w1 Yba.prog 33 M' w.heap.size n' m' (fun x => todo x ∧ x ≠ refV 0 d) cnt') (hc : cnt' < cnt) (htop : nk + cnt ≤ top) (hmax : top < maxLen)
    (hk : ∀ k, k < w1.heap.size → (U d).ownBlock ≠ some k → Wx.heap[k]? = w1.heap[k]?) (hs : w1.heap.size ≤ Wx.heap.size) (hbx : Below lo w1 Wx)
    {l : List DS} (hl : l = mergeL (L d) (L' d)) (hne : l ≠ []) {vr : Value} (hown : w3.ownsRow (M + 1) 35 7 vr l.length (flat l)) (hg3 : Wx.grownBy w3 (U d).ownBlock) (hloc : vr.ownBlock = (U d).ownBlock ∨ vr.ownBlock = some Wx.heap.size) :
    ∃ w4, (Instr.mapUpdate 37 (.map (some M)) (.agg #[.int .u64 0, .int .u64 d]) vr).run Yba.prog w3 = .ok () w4 ∧ (∀ k, k ≠ M → w4.heap[k]? = w3.heap[k]?) ∧ Hid (JoinE lo w ws w4 M w.heap.size L L' V M' n' m' top cnt') := by
  have o1 := hp.o1
  have o2 := hp.o2
  have o3 := hp.o3
  have o4 := hp.o4
  have p1 := hq.o1
  have p2 := hq.o2
  have p3 := hq.o3
  have p4 := hq.o4
  have sz := hj.size
  have s3 := hg3.size
  have hUge : ∀ e, e < 4 → ∀ g, (U e).ownBlock = some g → M + 1 ≤ g := fun e he g hg => own_ge (hDw.own e he) g hg
  have hUn : ∀ k, k < ws.heap.size → (∀ e, e < 4 → (V e).ownBlock ≠ some k) → ∀ e, e < 4 → (U e).ownBlock ≠ some k := fun k hk hV e he hu => by
    rcases hj.rows e he k hu with ⟨f, hf, hv⟩ | hv
    · exact hV f hf hv
    · omega
  have hM3 : ∀ k, k < w1.heap.size → (U d).ownBlock ≠ some k → w3.heap[k]? = w1.heap[k]? := fun k hkl hu => (hg3.block k (by omega) (fun e => hu e.symm)).trans (hk k hkl hu)
  have hMl := hDw.map.lt
  have hMu : (U d).ownBlock ≠ some M := fun e => by have := hUge d hd M e; omega
  obtain ⟨kl, hkl⟩ := key33 0 d (WalkArith.wf_u64 (by omega)) (WalkArith.wf_u64 (by omega))
  obtain ⟨w4, hrun, hm4, ⟨_, _, es, ck, _, hw4⟩⟩ := (hDw.map.of_block (hM3 M hMl hMu)).store keyed33 (t := 37) Yba.underlying37 (by omega) hkl vr
  obtain ⟨mk', sk', hD4⟩ := hDw.push (w3 := w3) (w4 := w4) (u := Wx.heap.size) hd hne (by omega) s3 (fun k hkl _ hu => hM3 k hkl hu) hown hloc ⟨_, hw4⟩ hm4
  have h4 : ∀ k, k ≠ M → w4.heap[k]? = w3.heap[k]? := fun k hk => by rw [hw4]; exact setBlock_other _ _ hk
  have hs4 : w4.heap.size = w3.heap.size := by rw [hw4]; simp [Go.ChangeMaps.setBlock]
  have hall : ∀ k, k < w1.heap.size → k ≠ M → (U d).ownBlock ≠ some k → w4.heap[k]? = w1.heap[k]? := fun k a b c => (h4 k b).trans (hM3 k a c)
  have hnot : ∀ k, k < ws.heap.size → lo' ≤ k → (U d).ownBlock ≠ some k := fun k a b => hUn k a (fun e he hv => by have := hsep.2 e he k hv; omega) d hd
  refine ⟨w4, hrun, h4, _, cnt', upd K d l, upd U d vr, mk', nk + 1, sk', ⟨hD4, ?_, ?_, ?_, by omega, hrg.of_blocks (hall M' (by omega) (by omega) (hnot M' (by omega) (by omega))) (hall _ (by omega) (by omega) (hnot _ (by omega) (by omega))), ?_⟩, by omega, rfl⟩
  · intro e he
    by_cases x : e = d
    · subst x
      rw [upd_same]
      exact ⟨fun hh => absurd rfl hh.2, fun _ => hl⟩
    · rw [upd_other _ _ _ x]
      have hr : refV 0 e ≠ refV 0 d := fun hh => x (by have := (refV_inj hh).2; omega)
      exact ⟨fun hh => (hj.tail e he).1 hh.1, fun hh => (hj.tail e he).2 (fun ht => hh ⟨ht, hr⟩)⟩
  · intro k a b c v
    rw [hall k (by omega) b (hUn k a v d hd), hgr.block k (by omega) (fun e => c (Option.some.inj e))]
    exact hj.frame k a b c v
  · intro e he g hgg
    by_cases x : e = d
    · subst x
      rw [upd_same] at hgg
      rcases hloc with hh | hh
      · exact hj.rows e he g (hh.symm.trans hgg)
      · rw [hh] at hgg
        injection hgg with hgg
        exact .inr (by omega)
    · rw [upd_other _ _ _ x] at hgg
      exact hj.rows e he g hgg
  · have b1 : Below lo wr w1 := (Below.refl _ _).grown hgr (by omega) (fun k hk => by injection hk with hk; omega)
    have b3 : Below lo Wx w3 := (Below.refl _ _).grown hg3 (by omega) (fun k hk => by have := hUge d hd k hk; omega)
    have b4 : Below lo w3 w4 := by rw [hw4]; exact ⟨rfl, rfl, rfl, by simp [Go.ChangeMaps.setBlock], fun k hk => setBlock_other _ _ (by omega)⟩
    exact (((hj.below.trans b1).trans hbx).trans b3).trans b4
end Go.Proofs.Ybulkakms
