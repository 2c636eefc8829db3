import Derived.Test.YbulkakoiDoorChoice2
namespace Go.Proofs.YbulkakoiDoor
open Go.RowKit Go.Maps

theorem info49 : (Ybad.prog.info? 49).map (fun i => (i.zero, i.size, i.bytes)) = some (some (.slice none 0 0), 1, 24) := by kernel_rfl

def ptrAt (b : Bool) (p : Nat) : Value := if b then .pointer (some ⟨p, 0, none⟩) else .pointer none
def rowAt (b : Bool) (p : Nat) : Value := if b then .slice (some ⟨p, 0, none⟩) 1 1 else .slice none 0 0

/-- behind j rounds of the second loop; v is the world ahead of it. -/
structure Ctx (w v wr : World) (M T C R nc j : Nat) (cb : Nat → Bool) (pc gc : Nat → Nat) : Prop where
  tabC : Tab wr C nc (fun x => ptrAt (decide (x < j) && cb x) (pc x))
  tabR : Tab wr R nc (fun x => rowAt (decide (x < j) && cb x) (gc x))
  one : ∀ x, x < j → cb x = true → wr.cell? ⟨gc x, 0, none⟩ = some (.pointer (some ⟨pc x, 0, none⟩))
  gt : ∀ x, x < j → cb x = true → R < gc x ∧ gc x < wr.heap.size
  k : wr.cell? ⟨T, 1, none⟩ = some (.int .u8 12)
  c8 : wr.cell? ⟨T, 8, none⟩ = some (.slice (some ⟨R, 0, none⟩) nc nc)
  r : wr.cell? ⟨T, 9, none⟩ = some (.map (some M))
  keep : ∀ k, k < v.heap.size → k ≠ T → wr.heap[k]? = v.heap[k]?
  m1 : T < v.heap.size
  m2 : v.heap.size ≤ C
  m3 : C < R
  m4 : R < wr.heap.size
  below : Below w.heap.size w wr

def CtxE (w v wr : World) (M T C R nc j : Nat) (cb : Nat → Bool) : Prop := ∃ pc gc, Ctx w v wr M T C R nc j cb pc gc

theorem ctx_skip {w v wr : World} {M T C R nc j : Nat} {cb : Nat → Bool} {pc gc : Nat → Nat} (h : Ctx w v wr M T C R nc j cb pc gc) (hj : cb j = false) : Ctx w v wr M T C R nc (j + 1) cb pc gc := by
  have e : ∀ x, (decide (x < j + 1) && cb x) = (decide (x < j) && cb x) := fun x => by
    by_cases e : x = j
    · subst e; simp [hj]
    · by_cases e2 : x < j
      · simp [e2, show x < j + 1 from by omega]
      · simp [e2, show ¬ x < j + 1 from by omega]
  have ex : ∀ x, x < j + 1 → cb x = true → x < j := fun x hx hc => by
    by_cases e : x = j
    · subst e; rw [hj] at hc; cases hc
    · omega
  exact ⟨h.tabC.congr (fun i _ => by rw [e]), h.tabR.congr (fun i _ => by rw [e]), fun x hx hc => h.one x (ex x hx hc) hc, fun x hx hc => h.gt x (ex x hx hc) hc, h.k, h.c8, h.r, h.keep, h.m1, h.m2, h.m3, h.m4, h.below⟩

theorem ctx_step {w v wr W : World} {M T C R nc j : Nat} {cb : Nat → Bool} {pc gc : Nat → Nat} (h : Ctx w v wr M T C R nc j cb pc gc) (hj : cb j = true) (hs : W.heap.size = wr.heap.size + 2)
    (hk : ∀ k, k < wr.heap.size → k ≠ C → k ≠ R → W.heap[k]? = wr.heap[k]?)
    (hC : W.heap[C]? = (wr.setCell ⟨C, j, none⟩ (.pointer (some ⟨wr.heap.size, 0, none⟩))).heap[C]?) (hR : W.heap[R]? = (wr.setCell ⟨R, j, none⟩ (.slice (some ⟨wr.heap.size + 1, 0, none⟩) 1 1)).heap[R]?)
    (hG : W.cell? ⟨wr.heap.size + 1, 0, none⟩ = some (.pointer (some ⟨wr.heap.size, 0, none⟩))) (hb : Below w.heap.size wr W) : CtxE w v W M T C R nc (j + 1) cb := by
  have m1 := h.m1
  have m2 := h.m2
  have m3 := h.m3
  have m4 := h.m4
  have hT : W.heap[T]? = wr.heap[T]? := hk T (by omega) (by omega) (by omega)
  have e : ∀ x, x ≠ j → (decide (x < j + 1) && cb x) = (decide (x < j) && cb x) := fun x e => by
    by_cases e2 : x < j
    · simp [e2, show x < j + 1 from by omega]
    · simp [e2, show ¬ x < j + 1 from by omega]
  refine ⟨fun x => if x = j then wr.heap.size else pc x, fun x => if x = j then wr.heap.size + 1 else gc x, ⟨?_, ?_, ?_, ?_, (World.cell?_of_block (w := wr) hT).trans h.k, (World.cell?_of_block (w := wr) hT).trans h.c8, (World.cell?_of_block (w := wr) hT).trans h.r, ?_, m1, m2, m3, by omega, h.below.trans hb⟩⟩
  · refine (h.tabC.set j _ (v' := fun x => ptrAt (decide (x < j + 1) && cb x) (if x = j then wr.heap.size else pc x)) ?_ ?_).of_block hC
    · simp [ptrAt, hj]
    · intro i hi _
      simp only [if_neg hi, e i hi]
  · refine (h.tabR.set j _ (v' := fun x => rowAt (decide (x < j + 1) && cb x) (if x = j then wr.heap.size + 1 else gc x)) ?_ ?_).of_block hR
    · simp [rowAt, hj]
    · intro i hi _
      simp only [if_neg hi, e i hi]
  · intro x hx hc
    by_cases ee : x = j
    · simp only [if_pos ee]; exact hG
    · simp only [if_neg ee]
      have hg := h.gt x (by omega) hc
      rw [World.cell?_of_block (w := wr) (a := ⟨gc x, 0, none⟩) (hk _ hg.2 (by show gc x ≠ C; omega) (by show gc x ≠ R; omega))]
      exact h.one x (by omega) hc
  · intro x hx hc
    by_cases ee : x = j
    · simp only [if_pos ee]; omega
    · simp only [if_neg ee]
      have hg := h.gt x (by omega) hc
      omega
  · intro k hk1 hk2
    exact (hk k (by omega) (by omega) (by omega)).trans (h.keep k hk1 hk2)

theorem setCell_block {a b : World} {R j : Nat} {v : Value} (e : a.heap[R]? = b.heap[R]?) : (a.setCell ⟨R, j, none⟩ v).heap[R]? = (b.setCell ⟨R, j, none⟩ v).heap[R]? := by
  simp [World.setCell, Array.getElem?_modify, e]

theorem ctx_start {w v v1 v2 : World} {M T Q nk nc s : Nat} {kc kn : Nat → Int} {cb : Nat → Bool} {pa ga : Nat → Nat} (h : Built w v M T Q nk nk s kc kn pa ga)
    (h1 : v1.ownsRow w.heap.size 68 1 (.slice (some ⟨v.heap.size, 0, none⟩) nc nc) nc (madeCells #[.pointer none] (nc * 1)).toList) (g1 : v.grownBy v1 none)
    (h2 : v2.ownsRow w.heap.size 49 1 (.slice (some ⟨v1.heap.size, 0, none⟩) nc nc) nc (madeCells #[.slice none 0 0] (nc * 1)).toList) (g2 : v1.grownBy v2 none) :
    CtxE w v (v2.setCell ⟨T, 8, none⟩ (.slice (some ⟨v1.heap.size, 0, none⟩) nc nc)) M T v.heap.size v1.heap.size nc 0 cb ∧ v2.cell? ⟨T, 8, none⟩ = some (.slice none 0 0) ∧ v2.frozen? ⟨T, 8, none⟩ = false ∧ T < v2.heap.size := by
  have a0 := h.m0
  have a1 := h.m1
  have a2 := h.m2
  have a3 := h.m3
  have b1 : Below v.heap.size v v1 := (Below.refl _ _).grown g1 (Nat.le_refl _) (fun k hk => by cases hk)
  have b2 : Below v1.heap.size v1 v2 := (Below.refl _ _).grown g2 (Nat.le_refl _) (fun k hk => by cases hk)
  have l1 := ownsRow_lt h1
  have l2 := ownsRow_lt h2
  have hT : v2.heap[T]? = v.heap[T]? := (b2.block T (by omega)).trans (b1.block T (by omega))
  have hC : v2.heap[v.heap.size]? = v1.heap[v.heap.size]? := b2.block _ l1
  have c8 : v2.cell? ⟨T, 8, none⟩ = some (.slice none 0 0) := (World.cell?_of_block (w := v) hT).trans h.c8
  refine ⟨⟨fun _ => 0, fun _ => 0, ⟨?_, ?_, fun x hx => by omega, fun x hx => by omega, ?_, ?_, ?_, ?_, by omega, Nat.le_refl _, l1, ?_, ?_⟩⟩, c8, (World.frozen?_of_block (w := v) hT).trans h.f8, by omega⟩
  · exact (((Tab.made h1).of_block hC).of_block (Below.heap_setCell _ _ _ _ (by show _ ≠ T; omega))).congr (fun i _ => by simp [ptrAt])
  · exact ((Tab.made h2).of_block (Below.heap_setCell _ _ _ _ (by show _ ≠ T; omega))).congr (fun i _ => by simp [rowAt])
  · rw [World.cell?_setCell_other _ _ _ _ (by simp)]; exact (World.cell?_of_block (w := v) hT).trans h.k
  · exact World.cell?_setCell_same _ _ _ c8
  · rw [World.cell?_setCell_other _ _ _ _ (by simp)]; exact (World.cell?_of_block (w := v) hT).trans h.r
  · intro k hk1 hk2
    rw [Below.heap_setCell _ _ _ _ hk2, b2.block k (by omega), b1.block k hk1]
  · simpa using l2
  · exact h.below.trans (((b1.mono (by omega)).trans (b2.mono (by omega))).setCell (p := ⟨T, 8, none⟩) (by show _ ≤ T; omega) _)

theorem ctx_round {w v wr : World} {M T C R nc j : Nat} {cb : Nat → Bool} {pc gc : Nat → Nat} (h : Ctx w v wr M T C R nc j cb pc gc) (hM : w.heap.size < T) (hj : cb j = true) (O : Obj) :
    CtxE w v ((((wr.setCell ⟨C, j, none⟩ (.pointer (some ⟨wr.heap.size, 0, none⟩))).setCell ⟨R, j, none⟩ (.slice (some ⟨wr.heap.size + 1, 0, none⟩) 1 1)).alloc O).alloc (.cells #[.pointer (some ⟨wr.heap.size, 0, none⟩)] 68)) M T C R nc (j + 1) cb := by
  have m1 := h.m1
  have m2 := h.m2
  have m3 := h.m3
  have m4 := h.m4
  have hs := h.below.size
  refine ctx_step h hj (by simp) ?_ ?_ ?_ ?_ ?_
  · intro k hk hC hR
    rw [Below.heap_alloc _ _ _ (by simp; omega), Below.heap_alloc _ _ _ (by simp; omega), Below.heap_setCell _ _ _ _ hR, Below.heap_setCell _ _ _ _ hC]
  · rw [Below.heap_alloc _ _ _ (by simp; omega), Below.heap_alloc _ _ _ (by simp; omega), Below.heap_setCell _ _ _ _ (by show C ≠ R; omega)]
  · rw [Below.heap_alloc _ _ _ (by simp; omega), Below.heap_alloc _ _ _ (by simp; omega)]
    have e : (wr.setCell ⟨C, j, none⟩ (.pointer (some ⟨wr.heap.size, 0, none⟩))).heap[R]? = wr.heap[R]? := Below.heap_setCell _ _ _ _ (by show R ≠ C; omega)
    exact setCell_block e
  · exact World.cell?_alloc_at _ _ _ _ (by simp)
  · exact ((((Below.refl _ _).setCell (p := ⟨C, j, none⟩) (by show _ ≤ C; omega) _).setCell (p := ⟨R, j, none⟩) (by show _ ≤ R; omega) _).alloc (by simp; omega) _).alloc (by simp; omega) _

/-- the type stands. -/
structure Ready (w wr : World) (M T Q C R nk nc s : Nat) (kc kn : Nat → Int) (cb : Nat → Bool) (pa ga pc gc : Nat → Nat) : Prop where
  map : MapAt wr Ybad.prog 41 M nk s (mOf kc kn ga nk)
  tab : Tab wr Q nk (fun j => .pointer (some ⟨pa j, 0, none⟩))
  one : ∀ j, j < nk → wr.cell? ⟨ga j, 0, none⟩ = some (.pointer (some ⟨pa j, 0, none⟩)) ∧ ga j < wr.heap.size
  tabC : Tab wr C nc (fun x => ptrAt (cb x) (pc x))
  tabR : Tab wr R nc (fun x => rowAt (cb x) (gc x))
  oneC : ∀ x, x < nc → cb x = true → wr.cell? ⟨gc x, 0, none⟩ = some (.pointer (some ⟨pc x, 0, none⟩)) ∧ gc x < wr.heap.size
  k : wr.cell? ⟨T, 1, none⟩ = some (.int .u8 12)
  c8 : wr.cell? ⟨T, 8, none⟩ = some (.slice (some ⟨R, 0, none⟩) nc nc)
  r : wr.cell? ⟨T, 9, none⟩ = some (.map (some M))
  m1 : M < wr.heap.size
  m2 : T < wr.heap.size
  m3 : Q < wr.heap.size
  m4 : C < wr.heap.size
  m5 : R < wr.heap.size
  below : Below w.heap.size w wr

theorem ready {w v wr : World} {M T Q C R nk nc s : Nat} {kc kn : Nat → Int} {cb : Nat → Bool} {pa ga pc gc : Nat → Nat} (h : Built w v M T Q nk nk s kc kn pa ga) (hc : Ctx w v wr M T C R nc nc cb pc gc) : Ready w wr M T Q C R nk nc s kc kn cb pa ga pc gc := by
  have a0 := h.m0
  have a1 := h.m1
  have a2 := h.m2
  have a3 := h.m3
  have b1 := hc.m1
  have b2 := hc.m2
  have b3 := hc.m3
  have b4 := hc.m4
  refine ⟨h.map.of_block (hc.keep M (by omega) (by omega)), (h.tab.of_block (hc.keep Q (by omega) (by omega))).congr (fun i hi => by rw [if_pos hi]), fun j hj => ?_, hc.tabC.congr (fun i hi => by simp [hi]), hc.tabR.congr (fun i hi => by simp [hi]), fun x hx hcb => ⟨hc.one x hx hcb, (hc.gt x hx hcb).2⟩, hc.k, hc.c8, hc.r, by omega, by omega, by omega, by omega, by omega, hc.below⟩
  have hg := h.gt j hj
  exact ⟨(World.cell?_of_block (w := v) (a := ⟨ga j, 0, none⟩) (hc.keep _ hg.2 (by show ga j ≠ T; omega))).trans (h.one j hj), by omega⟩
end Go.Proofs.YbulkakoiDoor
