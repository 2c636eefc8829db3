import Derived.Test.YbulkakoiDoorChoice1
import Derived.Deep.RegionWith
namespace Go.Proofs.YbulkakoiDoor
open Go.RowKit Go.Maps

theorem info68 : (Ybad.prog.info? 68).map (fun i => (i.zero, i.size, i.bytes)) = some (some (.pointer none), 1, 8) := by kernel_rfl

/-- behind i rounds of the first loop. -/
structure Built (w wr : World) (M T Q nk i s : Nat) (kc kn : Nat → Int) (pa ga : Nat → Nat) : Prop where
  map : MapAt wr Ybad.prog 41 M i s (mOf kc kn ga i)
  tab : Tab wr Q nk (fun j => if j < i then .pointer (some ⟨pa j, 0, none⟩) else .pointer none)
  one : ∀ j, j < i → wr.cell? ⟨ga j, 0, none⟩ = some (.pointer (some ⟨pa j, 0, none⟩))
  gt : ∀ j, j < i → Q < ga j ∧ ga j < wr.heap.size
  k : wr.cell? ⟨T, 1, none⟩ = some (.int .u8 12)
  c8 : wr.cell? ⟨T, 8, none⟩ = some (.slice none 0 0)
  r : wr.cell? ⟨T, 9, none⟩ = some (.map (some M))
  f8 : wr.frozen? ⟨T, 8, none⟩ = false
  m0 : w.heap.size ≤ M
  m1 : M < T
  m2 : T < Q
  m3 : Q < wr.heap.size
  below : Below w.heap.size w wr

def BuiltE (w wr : World) (M T Q nk i : Nat) (kc kn : Nat → Int) : Prop := ∃ s pa ga, Built w wr M T Q nk i s kc kn pa ga

theorem Built.drew {w wr : World} {M T Q nk i s : Nat} {kc kn : Nat → Int} {pa ga : Nat → Nat} (h : Built w wr M T Q nk i s kc kn pa ga) (q : Nat) : Built w (wr.drewN q) M T Q nk i s kc kn pa ga :=
  ⟨h.map.of_block rfl, h.tab.of_block rfl, h.one, h.gt, h.k, h.c8, h.r, h.f8, h.m0, h.m1, h.m2, h.m3, below_drewN h.below q⟩

theorem built_start {w w1 : World} {nk : Nat} {kc kn : Nat → Int} {X : Array Value} (h1 : X[1]? = some (.int .u8 12)) (h8 : X[8]? = some (.slice none 0 0)) (h9 : X[9]? = some (.map (some w.heap.size)))
    (hown : w1.ownsRow w.heap.size 68 1 (.slice (some ⟨w.heap.size + 1 + 1, 0, none⟩) nk nk) nk (madeCells #[.pointer none] (nk * 1)).toList)
    (hgrow : ((w.alloc (.map #[] 0)).alloc (.cells X 59)).grownBy w1 none) : Built w w1 w.heap.size (w.heap.size + 1) (w.heap.size + 1 + 1) nk 0 0 kc kn (fun _ => 0) (fun _ => 0) := by
  have hb : Below (w.heap.size + 2) ((w.alloc (.map #[] 0)).alloc (.cells X 59)) w1 := (Below.refl _ _).grown hgrow (by simp) (fun k hk => by cases hk)
  have hbM : ((w.alloc (.map #[] 0)).alloc (.cells X 59)).heap[w.heap.size]? = (w.alloc (.map #[] 0)).heap[w.heap.size]? := Below.heap_alloc _ _ _ (by simp)
  have hT : ∀ j, w1.cell? ⟨w.heap.size + 1, j, none⟩ = X[j]? := fun j => (hb.cell (p := ⟨w.heap.size + 1, j, none⟩) (Nat.lt_succ_self _)).trans (World.cell?_alloc_at X 59 _ j (by simp))
  refine ⟨?_, (Tab.made hown).congr (fun i hi => by simp), fun j hj => by omega, fun j hj => by omega, (hT 1).trans h1, (hT 8).trans h8, (hT 9).trans h9, ?_, Nat.le_refl _, Nat.lt_succ_self _, Nat.lt_succ_self _, ownsRow_lt hown, ?_⟩
  · rw [mOf_zero]
    exact ((MapAt.made w Ybad.prog 41).of_block hbM).of_block (hb.block _ (by omega))
  · rw [hb.frozen (p := ⟨w.heap.size + 1, 8, none⟩) (Nat.lt_succ_self _)]
    exact World.frozen?_alloc_at X 59 _ 8 (by simp)
  · exact (((Below.refl _ _).alloc (Nat.le_refl _) _).alloc (by simp) _).trans (hb.mono (by omega))

theorem lit_kc {kc kn : Nat → Int} {i : Nat} (k2 : 0 ≤ kn i) (k3 : kn i ≤ 4294967295) : ∃ kl, keyOf Ybad.prog 41 (tagV (kc i % 4) (kn i)) = some kl := by
  refine key41 _ _ ?_ ?_
  · exact WalkArith.wf_u8 (by omega)
  · exact WalkArith.wf_u32 ⟨k2, k3⟩

theorem built_step {w wr : World} {M T Q nk i s : Nat} {kc kn : Nat → Int} {pa ga : Nat → Nat} (h : Built w wr M T Q nk i s kc kn pa ga) (hi : i < nk) (hnk : nk ≤ 1024) (k2 : 0 ≤ kn i) (k3 : kn i ≤ 4294967295) (O1 O2 : Obj) (G : Obj)
    (hG : ∀ u : World, (u.alloc G).cell? ⟨u.heap.size, 0, none⟩ = some (.pointer (some ⟨wr.heap.size + 1, 0, none⟩))) :
    ∃ fw : Nat → World, (∀ q, (Instr.mapUpdate 53 (.map (some M)) (tagV (kc i % 4) (kn i)) (.slice (some ⟨wr.heap.size + 2, 0, none⟩) 1 1)).run Ybad.prog (((((wr.setCell ⟨Q, i, none⟩ (.pointer (some ⟨wr.heap.size + 1, 0, none⟩))).alloc O1).alloc O2).alloc G).drewN q) = .ok () (fw q)) ∧ ∀ q, BuiltE w (fw q) M T Q nk (i + 1) kc kn := by
  obtain ⟨kl, hkl⟩ := lit_kc (kc := kc) k2 k3
  have m1 := h.m1
  have m2 := h.m2
  have m3 := h.m3
  have m0 := h.m0
  have hsz : ∀ q, (((((wr.setCell ⟨Q, i, none⟩ (.pointer (some ⟨wr.heap.size + 1, 0, none⟩))).alloc O1).alloc O2).alloc G).drewN q).heap.size = wr.heap.size + 3 := fun q => by simp
  have hG' : ∀ q, (((((wr.setCell ⟨Q, i, none⟩ (.pointer (some ⟨wr.heap.size + 1, 0, none⟩))).alloc O1).alloc O2).alloc G).drewN q).cell? ⟨wr.heap.size + 2, 0, none⟩ = some (.pointer (some ⟨wr.heap.size + 1, 0, none⟩)) := fun q => by
    have := hG (((wr.setCell ⟨Q, i, none⟩ (.pointer (some ⟨wr.heap.size + 1, 0, none⟩))).alloc O1).alloc O2)
    simpa using this
  have hblk : ∀ q k, k < wr.heap.size → k ≠ Q → (((((wr.setCell ⟨Q, i, none⟩ (.pointer (some ⟨wr.heap.size + 1, 0, none⟩))).alloc O1).alloc O2).alloc G).drewN q).heap[k]? = wr.heap[k]? := fun q k hk hq => by
    show ((((wr.setCell ⟨Q, i, none⟩ (.pointer (some ⟨wr.heap.size + 1, 0, none⟩))).alloc O1).alloc O2).alloc G).heap[k]? = _
    rw [Below.heap_alloc _ _ _ (by simp; omega), Below.heap_alloc _ _ _ (by simp; omega), Below.heap_alloc _ _ _ (by simp; omega), Below.heap_setCell _ _ _ _ hq]
  have hbQ : ∀ q, (((((wr.setCell ⟨Q, i, none⟩ (.pointer (some ⟨wr.heap.size + 1, 0, none⟩))).alloc O1).alloc O2).alloc G).drewN q).heap[Q]? = (wr.setCell ⟨Q, i, none⟩ (.pointer (some ⟨wr.heap.size + 1, 0, none⟩))).heap[Q]? := fun q => by
    show ((((wr.setCell ⟨Q, i, none⟩ (.pointer (some ⟨wr.heap.size + 1, 0, none⟩))).alloc O1).alloc O2).alloc G).heap[Q]? = _
    rw [Below.heap_alloc _ _ _ (by simp; omega), Below.heap_alloc _ _ _ (by simp; omega), Below.heap_alloc _ _ _ (by simp; omega)]
  have hbel : ∀ q, Below w.heap.size w (((((wr.setCell ⟨Q, i, none⟩ (.pointer (some ⟨wr.heap.size + 1, 0, none⟩))).alloc O1).alloc O2).alloc G).drewN q) := fun q =>
    below_drewN ((((h.below.setCell (p := ⟨Q, i, none⟩) (by show _ ≤ Q; omega) _).alloc (by simp; omega) _).alloc (by simp; omega) _).alloc (by simp; omega) _) q
  have htab : Tab (wr.setCell ⟨Q, i, none⟩ (.pointer (some ⟨wr.heap.size + 1, 0, none⟩))) Q nk (fun j => if j < i + 1 then .pointer (some ⟨if j = i then wr.heap.size + 1 else pa j, 0, none⟩) else .pointer none) :=
    h.tab.set i _ (by simp) (fun j hj hj2 => by
      by_cases e : j < i
      · rw [if_pos (by omega), if_pos e, if_neg hj]
      · rw [if_neg (by omega), if_neg e])
  generalize hF : (fun q => ((((wr.setCell ⟨Q, i, none⟩ (.pointer (some ⟨wr.heap.size + 1, 0, none⟩))).alloc O1).alloc O2).alloc G).drewN q) = F
  have eF : ∀ q, ((((wr.setCell ⟨Q, i, none⟩ (.pointer (some ⟨wr.heap.size + 1, 0, none⟩))).alloc O1).alloc O2).alloc G).drewN q = F q := fun q => congrFun hF q
  simp only [eF] at hsz hG' hblk hbQ hbel ⊢
  have hst : ∀ q, ∃ w', (Instr.mapUpdate 53 (.map (some M)) (tagV (kc i % 4) (kn i)) (.slice (some ⟨wr.heap.size + 2, 0, none⟩) 1 1)).run Ybad.prog (F q) = .ok () w' ∧ BuiltE w w' M T Q nk (i + 1) kc kn := fun q => by
    obtain ⟨w', hrun, hm, ⟨es, ck, es', ck', hes, hw'⟩⟩ := (h.map.of_block (hblk q M (by omega) (by omega))).store law41 Ybad.underlying53 (by unfold maxLen; omega) hkl (.slice (some ⟨wr.heap.size + 2, 0, none⟩) 1 1)
    refine ⟨w', hrun, (if (mOf kc kn ga i (tagV (kc i % 4) (kn i))).isSome then s else s + 1), fun j => if j = i then wr.heap.size + 1 else pa j, fun j => if j = i then wr.heap.size + 2 else ga j, ?_⟩
    have hk : ∀ k, k ≠ M → w'.heap[k]? = (F q).heap[k]? := fun k hk => by
      rw [hw']; simp only [Go.ChangeMaps.setBlock]; rw [Array.getElem?_setIfInBounds_ne (Ne.symm hk)]
    have hs' : w'.heap.size = wr.heap.size + 3 := by rw [hw', ← hsz q]; simp [Go.ChangeMaps.setBlock]
    have hkk : ∀ k, k < wr.heap.size → k ≠ Q → k ≠ M → w'.heap[k]? = wr.heap[k]? := fun k h1 h2 h3 => (hk k h3).trans (hblk q k h1 h2)
    have hT : w'.heap[T]? = wr.heap[T]? := hkk T (by omega) (by omega) (by omega)
    refine ⟨hm _ ?_ ?_, ?_, ?_, ?_, (World.cell?_of_block (w := wr) hT).trans h.k, (World.cell?_of_block (w := wr) hT).trans h.c8, (World.cell?_of_block (w := wr) hT).trans h.r, (World.frozen?_of_block (w := wr) hT).trans h.f8, m0, m1, m2, by omega, ?_⟩
    · rw [mOf_hit]; simp
    · intro x hx
      exact mOf_succ kc kn ga _ i (fun j hj => by simp; omega) x hx
    · exact htab.of_block ((hk Q (by omega)).trans (hbQ q))
    · intro j hj
      by_cases e : j = i
      · subst e
        simp only [if_true]
        rw [World.cell?_of_block (w := F q) (a := ⟨wr.heap.size + 2, 0, none⟩) (hk _ (by show wr.heap.size + 2 ≠ M; omega))]
        exact hG' q
      · have hg := h.gt j (by omega)
        simp only [if_neg e]
        rw [World.cell?_of_block (w := wr) (a := ⟨ga j, 0, none⟩) (hkk _ hg.2 (by show ga j ≠ Q; omega) (by show ga j ≠ M; omega))]
        exact h.one j (by omega)
    · intro j hj
      by_cases e : j = i
      · simp only [if_pos e]; omega
      · have hg := h.gt j (by omega)
        simp only [if_neg e]; omega
    · exact (hbel q).trans ⟨by rw [hw']; rfl, by rw [hw']; rfl, by rw [hw']; rfl, by rw [hs', hsz q]; exact Nat.le_refl _, fun k hk' => hk k (by omega)⟩
  obtain ⟨fw, hfw⟩ := Classical.axiomOfChoice hst
  exact ⟨fw, fun q => (hfw q).1, fun q => (hfw q).2⟩
end Go.Proofs.YbulkakoiDoor
