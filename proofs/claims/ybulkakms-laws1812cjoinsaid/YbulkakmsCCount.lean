import Derived.Test.YbulkakmsCSum
namespace Go.Proofs.Ybulkakms
open Go.RowKit

/-- the count at place c.length, set. -/
theorem SumAt.bump {w : World} {S g len cap : Nat} {s : Sm} {c r : List Vc} {x : Vc} (h : SumAt w S s (.slice (some ⟨g, 0, none⟩) len cap) (c ++ x :: r)) (hl : len = (c ++ x :: r).length) (m : Int) :
    SumAt (w.setCell ⟨g, c.length * 3 + 2, none⟩ (.int .i64 m)) S s (.slice (some ⟨g, 0, none⟩) len cap) (c ++ ⟨x.a, x.b, m⟩ :: r) := by
  have hg : S + 1 ≤ g := own_ge3 h.own g rfl
  refine ⟨(setCell_other3 _ _ (by omega)).trans h.blk, ?_⟩
  have ho := h.own
  rw [← hl] at ho
  have e : (c ++ ⟨x.a, x.b, m⟩ :: r : List Vc).length = len := by rw [hl]; simp
  rw [e, ← flat3_set]
  exact owns_set3 ho _

theorem Kept.row {w w' : World} {S g : Nat} {v : Value} (h : Kept w w' S v) (hg : v.ownBlock = some g ∨ w.heap.size ≤ g) (j : Nat) (u : Value) : Kept w (w'.setCell ⟨g, j, none⟩ u) S v :=
  ⟨h.os, h.tape, h.output, by rw [setCell_size3]; exact h.size, fun k hk hS hv => (setCell_other3 _ _ (fun e => by
    rcases hg with hg | hg
    · exact hv (by rw [hg, e])
    · omega)).trans (h.block k hk hS hv)⟩

theorem sum_put {w w' : World} {S : Nat} {s : Sm} {v v' : Value} {l l' : List Vc} (h : SumAt w S s v l) (hp : Put w w' (S + 1) v v' l') : SumAt (w'.setCell ⟨S, 5, none⟩ v') S s v' l' ∧ Kept w (w'.setCell ⟨S, 5, none⟩ v') S v ∧ Loc w v v' := by
  have hS : w'.heap[S]? = w.heap[S]? := hp.grown.block S h.lt (fun e => by have := own_ge3 h.own S e.symm; omega)
  refine ⟨⟨?_, owns_of3 hp.own (fun k hk => setCell_other3 _ _ (fun e => by have := own_ge3 hp.own k hk; omega))⟩, (Kept.of_grown hp.grown).set 5 v', hp.loc⟩
  rw [h.blk] at hS
  simp [World.setCell, Array.getElem?_modify, hS, Sm.cells]

set_option maxHeartbeats 4000000 in
set_option maxRecDepth 100000 in
theorem count_any (S : Nat) (s : Sm) (v : Value) (l : List Vc) (a b n : Int) (w : World) (hl : l.length ≤ 4000) (hs : Hid (Sorted l)) (hn : -9223372036854775808 ≤ n ∧ n ≤ 9223372036854775807) (h : Hid (SumAt w S s v l)) :
    Calls Yba.prog 21 #[.pointer (some ⟨S, 0, none⟩), .int .u16 a, .int .u16 b, .int .i64 n] w fun e w' => e = .returned (.tuple #[]) ∧ ∃ v', SumAt w' S s v' (addV a b n l) ∧ Kept w w' S v ∧ Loc w v v' := by
  have hSl := h.out.lt
  have c5 : w.cell? ⟨S, 5, none⟩ = some v := h.out.cell 5
  go_enter Yba.func21, Yba.ntmps21
  go_upto_region 1 with fail
  have HB0 : Hid (Below w.heap.size w (w.alloc (.cells #[.int .u16 a, .int .u16 b, .int .i64 0] 66))) := (Below.refl _ _).alloc (Nat.le_refl _) _
  have HA0 : Hid ((w.alloc (.cells #[.int .u16 a, .int .u16 b, .int .i64 0] 66)).heap[w.heap.size]? = some (.cells #[.int .u16 a, .int .u16 b, .int .i64 0] 66)) := heap_alloc_new w _
  have HSz : Hid ((w.alloc (.cells #[.int .u16 a, .int .u16 b, .int .i64 0] 66)).heap.size = w.heap.size + 1) := by show _ = _; simp
  generalize (w.alloc (.cells #[.int .u16 a, .int .u16 b, .int .i64 0] 66)) = W0 at HB0 HA0 HSz ⊢
  have HS0 : Hid (SumAt W0 S s v l) := h.out.below HB0.out
  have d5 : W0.cell? ⟨S, 5, none⟩ = some v := HS0.out.cell 5
  have hA : w.heap.size < W0.heap.size := by rw [HSz.out]; omega
  have hSW : S < W0.heap.size := HS0.out.lt
  have a0 : W0.cell? ⟨w.heap.size, 0, none⟩ = some (.int .u16 a) := (cell_of_row _ _ _ _ _ _ HA0.out).trans rfl
  have a1 : W0.cell? ⟨w.heap.size, 1, none⟩ = some (.int .u16 b) := (cell_of_row _ _ _ _ _ _ HA0.out).trans rfl
  have a2 : W0.cell? ⟨w.heap.size, 2, none⟩ = some (.int .i64 0) := (cell_of_row _ _ _ _ _ _ HA0.out).trans rfl
  have hf := find_any v l ⟨a, b, 0⟩
  simp only [Vc.v] at hf
  have HF : Hid (type_of% hf) := hf
  obtain ⟨A, hAe⟩ : ∃ A, A = w.heap.size := ⟨_, rfl⟩
  have HAE : Hid (A = w.heap.size) := hAe
  rw [← hAe] at hA a0 a1 a2 HA0 ⊢
  clear hf c5 hAe
  go_region_held3 (fun w' => w'.cell? ⟨S, 5, none⟩ = some v ∧ w'.cell? ⟨A, 0, none⟩ = some (.int .u16 a) ∧ w'.cell? ⟨A, 1, none⟩ = some (.int .u16 b) ∧ w'.cell? ⟨A, 2, none⟩ = some (.int .i64 0)) (first | assumption | go_keep)
    (first
      | (go_at_call 23
         refine (HF.out W0.drew (by omega) hs (Seen3.of_owns (owns_of3 HS0.out.own (fun _ _ => rfl)))).mono ?_
         rintro e w1 ⟨i, found, rfl, hb1, hpl⟩
         have e5 : w1.cell? ⟨S, 5, none⟩ = some v := (hb1.cell (p := ⟨S, 5, none⟩) hSW).trans d5
         have f0 : w1.cell? ⟨A, 0, none⟩ = some (.int .u16 a) := (hb1.cell (p := ⟨A, 0, none⟩) hA).trans a0
         have f1 : w1.cell? ⟨A, 1, none⟩ = some (.int .u16 b) := (hb1.cell (p := ⟨A, 1, none⟩) hA).trans a1
         have f2 : w1.cell? ⟨A, 2, none⟩ = some (.int .i64 0) := (hb1.cell (p := ⟨A, 2, none⟩) hA).trans a2))
  all_goals
    have HS1 : Hid (SumAt w1 S s v l) := HS0.out.kept (hb1.block S hSW) (fun k hk => hb1.block k (own_lt3 HS0.out.own k hk))
    have HB1 : Hid (Below w.heap.size w w1) := HB0.out.drew.trans (hb1.mono HB0.out.size)
    have HPL : Hid (type_of% hpl) := hpl
    clear hb1 hpl a0 a1 a2 d5 HS0 HB0 HA0 HF
    cases found
    · have hSw : S < w1.heap.size := HS1.out.lt
      have hAw : A < w1.heap.size := World.block_lt_of_cell? _ _ f0
      have hil0 : i ≤ l.length := HPL.out.1
      go_upto_region 3 with fail
      have hins := ins_any (S + 1) v l ⟨a, b, 0⟩ w1.heap.size i ((w1.alloc (.cells #[.int .u16 a, .int .u16 b, .int .i64 0] 66)).drew) (by omega) (owns_of3 HS1.out.own (fun k hk => Below.heap_alloc w1 _ _ (own_lt3 HS1.out.own k hk))) (heap_alloc_new w1 _) (fun e => by have := own_lt3 HS1.out.own _ e; omega) (by show S + 1 ≤ (w1.alloc _).heap.size; simp; omega) hil0
      obtain ⟨len, hlen⟩ : ∃ len, (l.take i ++ (⟨a, b, 0⟩ : Vc) :: l.drop i).length = len := ⟨_, rfl⟩
      have HLEN : Hid ((l.take i ++ (⟨a, b, 0⟩ : Vc) :: l.drop i).length = len) := hlen
      have hlen4 : len ≤ 4096 := by rw [← hlen]; simp; omega
      have hilen : i < len := by rw [← hlen]; simp; omega
      clear hlen
      have HINS : Hid (type_of% hins) := hins
      have HS1a : Hid (SumAt ((w1.alloc (.cells #[.int .u16 a, .int .u16 b, .int .i64 0] 66)).drew) S s v l) := HS1.out.kept (Below.heap_alloc w1 _ _ hSw) (fun k hk => Below.heap_alloc w1 _ _ (own_lt3 HS1.out.own k hk))
      have HB1a : Hid (Below w.heap.size w ((w1.alloc (.cells #[.int .u16 a, .int .u16 b, .int .i64 0] 66)).drew)) := (HB1.out.alloc HB1.out.size _).drew
      clear hins
      have htest : ∀ (w2 : World) (v' : Value), Put ((w1.alloc (.cells #[.int .u16 a, .int .u16 b, .int .i64 0] 66)).drew) w2 (S + 1) v v' (l.take i ++ ⟨a, b, 0⟩ :: l.drop i) → w2.cell? ⟨S, 5, none⟩ = some v ∧ w2.frozen? ⟨S, 5, none⟩ = false := fun w2 v' hput => by
        have hSb : w2.heap[S]? = some (.cells (s.cells v) 63) := (hput.grown.block S HS1a.out.lt (fun e => by have := own_ge3 HS1a.out.own S e.symm; omega)).trans HS1a.out.blk
        exact ⟨(cell_of_row _ _ _ _ _ _ hSb).trans rfl, frozen_of_row _ _ _ _ _ hSb⟩
      have HTEST : Hid (type_of% htest) := htest
      clear htest
      go_region_with (first
          | (go_at_call 25
             refine (HINS.out).mono ?_
             rintro e w2 ⟨v', rfl, hput⟩
             obtain ⟨g, cap, hvv, hg1, hg2⟩ := hput.own.form (by simp; omega)
             rw [HLEN.out] at hvv
             subst hvv
             have hs2 := HTEST.out w2 _ hput
             have HPUT : Hid (type_of% hput) := hput
             clear hput))
      all_goals
        obtain ⟨HT1, HT2, HT3⟩ := sum_put HS1a.out HPUT.out
        have hci : (l.take i).length = i := by rw [List.length_take]; omega
        have HBP0 := HT1.bump HLEN.out.symm (wrap64 (0 + n))
        rw [hci] at HBP0
        have hwn : wrap64 (0 + n) = n := by unfold wrap64; omega
        rw [hwn] at HBP0
        have HAD : Hid (addV a b n l = l.take i ++ ⟨a, b, n⟩ :: l.drop i) := place_new HPL.out
        have HOW := HT1.own
        rw [HLEN.out] at HOW
        have hrow : (w2.setCell ⟨S, 5, none⟩ (.slice (some ⟨g, 0, none⟩) len cap)).cell? ⟨g, i * 3 + 2, none⟩ = some (.int .i64 0) := by
          refine (HOW.cellAt _ (by omega)).trans ?_
          rw [flat3_get _ _ _ (by rw [HLEN.out]; exact hilen) (by omega)]
          simp [Vc.v, hci]
        have g5 : (w2.setCell ⟨S, 5, none⟩ (.slice (some ⟨g, 0, none⟩) len cap)).cell? ⟨S, 5, none⟩ = some (.slice (some ⟨g, 0, none⟩) len cap) := HT1.cell 5
        have hfz : (w2.setCell ⟨S, 5, none⟩ (.slice (some ⟨g, 0, none⟩) len cap)).frozen? ⟨g, i * 3 + 2, none⟩ = false := owns_frozen3 HOW _
        have HBP : Hid (type_of% HBP0) := HBP0
        have HK : Hid (Kept w (w2.setCell ⟨S, 5, none⟩ (.slice (some ⟨g, 0, none⟩) len cap)) S v) := (Kept.of_below HB1a.out).trans HT2 (Loc.refl _ _)
        have HL : Hid (Loc w v (.slice (some ⟨g, 0, none⟩) len cap)) := (Loc.refl w v).trans HT3 HB1a.out.size
        clear HBP0 HOW HT1 HT2 HT3 hs2
        generalize w2.setCell ⟨S, 5, none⟩ (.slice (some ⟨g, 0, none⟩) len cap) = W4 at hrow g5 hfz HBP HK HL ⊢
        go_wp2_with fail
        refine bodyPost_end (v := .tuple #[]) (by simp [results, Yba.results21]) rfl ?_
        refine ⟨rfl, _, by rw [HAD.out]; exact HBP.out, HK.out.row ?_ _ _, HL.out⟩
        rcases HL.out with e | ⟨q, e, hq⟩
        · exact .inl e.symm
        · injection e with e
          exact .inr (by have : g = q := e; omega)
    · obtain ⟨c, x, r, hle, hci, hadd⟩ := place_found (n := n) HPL.out
      obtain ⟨W4, rfl⟩ : ∃ W4, W4 = w1 := ⟨_, rfl⟩
      have HS4 : Hid (SumAt W4 S s v (c ++ x :: r)) := by rw [← hle]; exact HS1
      have HLN : Hid ((c ++ x :: r).length ≤ 4096) := by show _ ≤ _; rw [← hle]; omega
      have HAD : Hid (addV a b n l = c ++ ⟨x.a, x.b, wrap64 (x.n + n)⟩ :: r) := hadd
      clear hle hadd HS1 HPL
      obtain ⟨g, cap, hv4, hg1, hg2⟩ := HS4.out.own.form (by simp; omega)
      subst hv4
      have hrow : W4.cell? ⟨g, i * 3 + 2, none⟩ = some (.int .i64 x.n) := by
        have hlt : i * 3 + 2 < (c ++ x :: r).length * 3 := by simp; omega
        refine (HS4.out.own.cellAt _ hlt).trans ?_
        rw [flat3_get _ _ _ (by simp; omega) (by omega)]
        simp [← hci, Vc.v]
      have g5 : W4.cell? ⟨S, 5, none⟩ = some (.slice (some ⟨g, 0, none⟩) (c ++ x :: r).length cap) := HS4.out.cell 5
      have hfz : W4.frozen? ⟨g, i * 3 + 2, none⟩ = false := owns_frozen3 HS4.out.own _
      have hil : i < (c ++ x :: r).length := by simp; omega
      have hln : (c ++ x :: r).length ≤ 4096 := HLN.out
      have HBP := (show Hid _ from HS4.out.bump rfl (wrap64 (x.n + n)))
      rw [hci] at HBP
      go_wp2_with fail
      refine bodyPost_end (v := .tuple #[]) (by simp [results, Yba.results21]) rfl ?_
      exact ⟨rfl, _, by rw [HAD.out]; exact HBP.out, (Kept.of_below HB1.out).row (.inl rfl) _ _, Loc.refl _ _⟩
end Go.Proofs.Ybulkakms
