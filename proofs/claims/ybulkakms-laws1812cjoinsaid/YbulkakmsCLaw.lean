import Derived.Test.YbulkakmsCBuild
import Derived.Test.YbulkakmsCEq
import Derived.LaidEqlPtr
namespace Go.Proofs.Ybulkakms
open Go.RowKit

theorem neqNil27c (w : World) : (binOp .neq 27 .nilIface .nilIface).run Yba.prog w = .ok (.bool false) w := by kernel_rfl

theorem eqMax (X : Nat) (w : World) : (binOp .eql 58 (.pointer (some ⟨X, 0, none⟩)) (.pointer (some ⟨X, 0, none⟩))).run Yba.prog w = .ok (.bool true) w := by
  have h : (Yba.prog.info? 60).isSome = true := by kernel_rfl
  obtain ⟨j, hj⟩ := Option.isSome_iff_exists.1 h
  exact run_eql_ptr_same w ⟨X, 0, none⟩ Yba.underlying58 hj

theorem apart_new {S T K : Nat} {v u : Value} (hv : ∀ g, v.ownBlock = some g → g < K) (hS : S < K) (hT : K ≤ T) (hu : ∀ g, u.ownBlock = some g → T + 1 ≤ g) : Apart S T v u ∧ Apart T S u v := by
  refine ⟨⟨by omega, fun e => by have := hv T e; omega, fun g hg => ⟨by have := hu g hg; omega, fun e => by have := hv g e; have := hu g hg; omega⟩⟩, ⟨by omega, fun e => by have := hu S e; omega, fun g hg => ⟨by have := hv g hg; omega, fun e => by have := hv g hg; have := hu g e; omega⟩⟩⟩

theorem Below.ofKept {w w1 w2 : World} {S B : Nat} {v : Value} (h : Below B w w1) (k : Kept w1 w2 S v) (hB : B ≤ w1.heap.size) (hS : B ≤ S) (hv : ∀ g, v.ownBlock = some g → B ≤ g) : Below B w w2 :=
  ⟨k.os.trans h.os, k.tape.trans h.tape, k.output.trans h.output, Nat.le_trans h.size k.size, fun i hi => (k.block i (by omega) (by omega) (fun e => by have := hv i e; omega)).trans (h.block i hi)⟩

theorem joinS_mx (tt : Int) (s t : Sm) : (joinS tt s t).mx = s.mx := by
  unfold joinS mergeS headS
  split
  · split <;> rfl
  · rfl

theorem joinS_but (tt : Int) (s t : Sm) (m : Value) : joinS tt s t = { joinS tt { s with mx := m } t with mx := (joinS tt s t).mx } := by
  unfold joinS mergeS headS
  split
  · split <;> rfl
  · rfl

theorem joinL_len (tt : Int) (l m : List Vc) : (joinL tt l m).length ≤ l.length + m.length := by
  unfold joinL
  split
  · exact addAll_len l m
  · omega

/-- the cells of a side. -/
abbrev side (r f l x : Int) (ov : Bool) (v : Value) (sk dm : Int) : Array Value := #[.int .i64 r, .int .i64 f, .int .i64 l, .int .i64 x, .bool ov, v, .int .i64 sk, .int .i64 dm]

theorem eight {u : World} {P : Nat} {r f l x sk dm : Int} {ov : Bool} {v : Value} (h : u.heap[P]? = some (.cells (side r f l x ov v sk dm) 55)) :
    u.cell? ⟨P, 0, none⟩ = some (.int .i64 r) ∧ u.cell? ⟨P, 1, none⟩ = some (.int .i64 f) ∧ u.cell? ⟨P, 2, none⟩ = some (.int .i64 l) ∧ u.cell? ⟨P, 3, none⟩ = some (.int .i64 x) ∧ u.cell? ⟨P, 4, none⟩ = some (.bool ov) ∧ u.cell? ⟨P, 5, none⟩ = some v ∧ u.cell? ⟨P, 6, none⟩ = some (.int .i64 sk) ∧ u.cell? ⟨P, 7, none⟩ = some (.int .i64 dm) := by
  refine ⟨?_, ?_, ?_, ?_, ?_, ?_, ?_, ?_⟩
  all_goals (rw [cell_of_row _ _ _ _ _ _ h]; rfl)

set_option maxHeartbeats 8000000 in
set_option maxRecDepth 100000 in
theorem claw_long (r f l x sk dm r' f' l' x' sk' dm' : Int) (ov ov' : Bool) (va vb : Option Addr) (na ca nb cb : Nat) (tt : Int) (w : World) (h : ¬ (na ≤ 1024 ∧ nb ≤ 1024)) :
    Calls Yba.prog 4 #[.agg #[.int .i64 r, .int .i64 f, .int .i64 l, .int .i64 x, .bool ov, .slice va na ca, .int .i64 sk, .int .i64 dm], .agg #[.int .i64 r', .int .i64 f', .int .i64 l', .int .i64 x', .bool ov', .slice vb nb cb, .int .i64 sk', .int .i64 dm'], .int .i64 tt] w fun e w' => e = .returned (.bool true) ∧ Below w.heap.size w w' := by
  by_cases h0 : 1024 < na
  · have b0 : decide ((1024 : Int) < na) = true := by simp; omega
    go_enter Yba.func4, Yba.ntmps4
    go_wp2
    go_ret
    exact ⟨rfl, ((Below.refl _ _).alloc (Nat.le_refl _) _).alloc (by simp) _⟩
  · have b0 : decide ((1024 : Int) < na) = false := by simp; omega
    have b1 : decide ((1024 : Int) < nb) = true := by simp; omega
    go_enter Yba.func4, Yba.ntmps4
    go_wp2
    go_ret
    exact ⟨rfl, ((Below.refl _ _).alloc (Nat.le_refl _) _).alloc (by simp) _⟩

set_option maxHeartbeats 8000000 in
set_option maxRecDepth 100000 in
theorem claw_any (r f l x sk dm r' f' l' x' sk' dm' : Int) (ov ov' : Bool) (va vb : Option Addr) (na ca nb cb : Nat) (ea eb : Nat → Vc) (tt : Int) (w : World) (h0 : na ≤ 1024) (h1 : nb ≤ 1024) (hva : Hid (VersAt w va na ea)) (hvb : Hid (VersAt w vb nb eb)) :
    Calls Yba.prog 4 #[.agg #[.int .i64 r, .int .i64 f, .int .i64 l, .int .i64 x, .bool ov, .slice va na ca, .int .i64 sk, .int .i64 dm], .agg #[.int .i64 r', .int .i64 f', .int .i64 l', .int .i64 x', .bool ov', .slice vb nb cb, .int .i64 sk', .int .i64 dm'], .int .i64 tt] w fun e w' => e = .returned (.bool true) ∧ Below w.heap.size w w' := by
  have b0 : decide ((1024 : Int) < na) = false := by simp; omega
  have b1 : decide ((1024 : Int) < nb) = false := by simp; omega
  have hq := neqNil27c
  go_enter Yba.func4, Yba.ntmps4
  go_upto_region 3 with fail
  have HB0 : Hid (Below w.heap.size w ((w.alloc (.cells (side r f l x ov (.slice va na ca) sk dm) 55)).alloc (.cells (side r' f' l' x' ov' (.slice vb nb cb) sk' dm') 55))) := ((Below.refl _ _).alloc (Nat.le_refl _) _).alloc (by simp) _
  have L1 : Hid (((w.alloc (.cells (side r f l x ov (.slice va na ca) sk dm) 55)).alloc (.cells (side r' f' l' x' ov' (.slice vb nb cb) sk' dm') 55)).heap[w.heap.size]? = some (.cells (side r f l x ov (.slice va na ca) sk dm) 55)) := (Below.heap_alloc _ _ _ (by simp)).trans (heap_alloc_new w _)
  have L2 : Hid (((w.alloc (.cells (side r f l x ov (.slice va na ca) sk dm) 55)).alloc (.cells (side r' f' l' x' ov' (.slice vb nb cb) sk' dm') 55)).heap[w.heap.size + 1]? = some (.cells (side r' f' l' x' ov' (.slice vb nb cb) sk' dm') 55)) := by
    show _ = _
    have := heap_alloc_new (w.alloc (.cells (side r f l x ov (.slice va na ca) sk dm) 55)) (.cells (side r' f' l' x' ov' (.slice vb nb cb) sk' dm') 55)
    simpa using this
  generalize hW0 : ((w.alloc (.cells (side r f l x ov (.slice va na ca) sk dm) 55)).alloc (.cells (side r' f' l' x' ov' (.slice vb nb cb) sk' dm') 55)) = W0 at HB0 L1 L2 ⊢
  generalize w.heap.size + 1 = P2 at L2 ⊢
  generalize hP1 : w.heap.size = P1 at L1 ⊢
  have HP1 : Hid (w.heap.size = P1) := hP1
  clear hW0 hP1
  have hl1 : P1 < W0.heap.size := (Array.getElem?_eq_some_iff.1 L1.out).1
  have hl2 : P2 < W0.heap.size := (Array.getElem?_eq_some_iff.1 L2.out).1
  have E1 := eight L1.out
  go_wp2_with fail
  refine (cbuild_any r f l x sk dm ov va na ca ea W0 h0 (hva.out.on HB0.out)).mono ?_
  rintro e w1 ⟨S, vS, rfl, hS0, hS1, hb1⟩
  have HS1 : Hid (SumAt w1 S ⟨r, f, l, x, ov, sk, dm, .pointer none⟩ vS (bl ea na)) := hS1
  have HB1 : Hid (Below W0.heap.size W0 w1) := hb1
  clear hS1 hb1 E1
  have s8 : w1.cell? ⟨S, 8, none⟩ = some (.pointer none) := HS1.out.cell 8
  have hf8 := HS1.out.frozen
  have hSl := HS1.out.lt
  go_upto_region 6 with fail
  have HS2 : Hid (SumAt ((w1.setCell ⟨S, 8, none⟩ (.pointer (some ⟨w1.heap.size, 0, none⟩))).alloc (.cells #[.int .u64 0, .int .u64 0, .int .u64 0] 60)) S ⟨r, f, l, x, ov, sk, dm, .pointer (some ⟨w1.heap.size, 0, none⟩)⟩ vS (bl ea na)) := (HS1.out.fld 8 (.pointer (some ⟨w1.heap.size, 0, none⟩)) (s' := ⟨r, f, l, x, ov, sk, dm, .pointer (some ⟨w1.heap.size, 0, none⟩)⟩) rfl).below ((Below.refl _ _).alloc (Nat.le_refl _) _)
  have HB2 : Hid (Below W0.heap.size W0 ((w1.setCell ⟨S, 8, none⟩ (.pointer (some ⟨w1.heap.size, 0, none⟩))).alloc (.cells #[.int .u64 0, .int .u64 0, .int .u64 0] 60))) := by
    have hk : Kept w1 (w1.setCell ⟨S, 8, none⟩ (.pointer (some ⟨w1.heap.size, 0, none⟩))) S vS := (Kept.refl _ _ _).set 8 _
    exact (Below.ofKept HB1.out hk HB1.out.size hS0 (fun g hg => by have := own_ge3 HS1.out.own g hg; omega)).alloc (by rw [setCell_size3]; exact HB1.out.size) _
  generalize ((w1.setCell ⟨S, 8, none⟩ (.pointer (some ⟨w1.heap.size, 0, none⟩))).alloc (.cells #[.int .u64 0, .int .u64 0, .int .u64 0] 60)) = w2 at HS2 HB2 ⊢
  generalize w1.heap.size = X at HS2 ⊢
  clear s8 hf8 hSl HS1 HB1
  have L22 : Hid (w2.heap[P2]? = some (.cells (side r' f' l' x' ov' (.slice vb nb cb) sk' dm') 55)) := (HB2.out.block P2 hl2).trans L2.out
  have L12 : Hid (w2.heap[P1]? = some (.cells (side r f l x ov (.slice va na ca) sk dm) 55)) := (HB2.out.block P1 hl1).trans L1.out
  have E2 := eight L22.out
  go_wp2_with fail
  refine (cbuild_any r' f' l' x' sk' dm' ov' vb nb cb eb w2 h1 ((hvb.out.on HB0.out).on HB2.out)).mono ?_
  rintro e w3 ⟨T, vT, rfl, hT0, hT1, hb3⟩
  have HT3 : Hid (SumAt w3 T ⟨r', f', l', x', ov', sk', dm', .pointer none⟩ vT (bl eb nb)) := hT1
  have HB3 : Hid (Below w2.heap.size w2 w3) := hb3
  clear hT1 hb3 E2
  have hb2s := HB2.out.size
  have L23 : Hid (w3.heap[P2]? = some (.cells (side r' f' l' x' ov' (.slice vb nb cb) sk' dm') 55)) := (HB3.out.block P2 (by omega)).trans L22.out
  have L13 : Hid (w3.heap[P1]? = some (.cells (side r f l x ov (.slice va na ca) sk dm) 55)) := (HB3.out.block P1 (by omega)).trans L12.out
  have E3 := eight L23.out
  go_wp2_with fail
  refine (cbuild_any r' f' l' x' sk' dm' ov' vb nb cb eb w3 h1 (((hvb.out.on HB0.out).on HB2.out).on HB3.out)).mono ?_
  rintro e w4 ⟨C, vC, rfl, hC0, hC1, hb4⟩
  have HC4 : Hid (SumAt w4 C ⟨r', f', l', x', ov', sk', dm', .pointer none⟩ vC (bl eb nb)) := hC1
  have HB4 : Hid (Below w3.heap.size w3 w4) := hb4
  clear hC1 hb4 E3
  have hb3s := HB3.out.size
  have L14 : Hid (w4.heap[P1]? = some (.cells (side r f l x ov (.slice va na ca) sk dm) 55)) := (HB4.out.block P1 (by omega)).trans L13.out
  have E4 := eight L14.out
  go_wp2_with fail
  refine (cbuild_any r f l x sk dm ov va na ca ea w4 h0 (((((hva.out.on HB0.out).on HB2.out).on HB3.out)).on HB4.out)).mono ?_
  rintro e w5 ⟨D, vD, rfl, hD0, hD1, hb5⟩
  have HD5 : Hid (SumAt w5 D ⟨r, f, l, x, ov, sk, dm, .pointer none⟩ vD (bl ea na)) := hD1
  have HB5 : Hid (Below w4.heap.size w4 w5) := hb5
  clear hD1 hb5 E4
  have hb4s := HB4.out.size
  have hb5s := HB5.out.size
  have HS5 : Hid (SumAt w5 S ⟨r, f, l, x, ov, sk, dm, .pointer (some ⟨X, 0, none⟩)⟩ vS (bl ea na)) := ((HS2.out.below HB3.out).below HB4.out).below HB5.out
  have HT5 : Hid (SumAt w5 T ⟨r', f', l', x', ov', sk', dm', .pointer none⟩ vT (bl eb nb)) := (HT3.out.below HB4.out).below HB5.out
  have HC5 : Hid (SumAt w5 C ⟨r', f', l', x', ov', sk', dm', .pointer none⟩ vC (bl eb nb)) := HC4.out.below HB5.out
  have AST : Hid (Apart S T vS vT) := (apart_new (fun g hg => own_lt3 HS2.out.own g hg) HS2.out.lt hT0 (fun g hg => own_ge3 HT3.out.own g hg)).1
  have ADS : Hid (Apart D S vD vS) := (apart_new (K := w4.heap.size) (fun g hg => by have := own_lt3 HS2.out.own g hg; omega) (by have := HS2.out.lt; omega) hD0 (fun g hg => own_ge3 HD5.out.own g hg)).2
  have ADT : Hid (Apart D T vD vT) := (apart_new (K := w4.heap.size) (fun g hg => by have := own_lt3 HT3.out.own g hg; omega) (by have := HT3.out.lt; omega) hD0 (fun g hg => own_ge3 HD5.out.own g hg)).2
  have ADC : Hid (Apart D C vD vC) := (apart_new (K := w4.heap.size) (fun g hg => own_lt3 HC4.out.own g hg) HC4.out.lt hD0 (fun g hg => own_ge3 HD5.out.own g hg)).2
  have ASC : Hid (Apart S C vS vC) := (apart_new (K := w3.heap.size) (fun g hg => by have := own_lt3 HS2.out.own g hg; omega) (by have := HS2.out.lt; omega) hC0 (fun g hg => own_ge3 HC4.out.own g hg)).1
  have HvS : Hid (∀ g, vS.ownBlock = some g → g < w4.heap.size) := fun g hg => by have := own_lt3 HS2.out.own g hg; omega
  have hSD : S < w4.heap.size := by have := HS2.out.lt; omega
  have HBW : Hid (Below w.heap.size w w5) := (((HB0.out.trans (HB2.out.mono HB0.out.size)).trans (HB3.out.mono (Nat.le_trans HB0.out.size hb2s))).trans (HB4.out.mono (by have := HB0.out.size; omega))).trans (HB5.out.mono (by have := HB0.out.size; omega))
  have hwD : w.heap.size ≤ D := by have := HB0.out.size; omega
  have hwS : w.heap.size ≤ S := by have := HB0.out.size; omega
  have hlb := bl_len eb nb
  have hla := bl_len ea na
  have HOK : Hid (∀ y ∈ bl eb nb, y.ok) := by
    by_cases hz : 0 < nb
    · obtain ⟨_, _, _, _, hc⟩ := hvb.out hz
      exact bl_ok (fun i hi => (hc i hi).1) nb (Nat.le_refl _)
    · have : nb = 0 := by omega
      subst this
      exact fun y hy => by cases hy
  clear HS2 HT3 HC4 HB2 HB3 HB4 HB5 L1 L2 L22 L12 L23 L13 L14 HB0
  generalize hs0 : (⟨r, f, l, x, ov, sk, dm, .pointer none⟩ : Sm) = s0 at HD5
  generalize ht0 : (⟨r', f', l', x', ov', sk', dm', .pointer none⟩ : Sm) = t0 at HT5 HC5
  have HSE : Hid ((⟨r, f, l, x, ov, sk, dm, .pointer (some ⟨X, 0, none⟩)⟩ : Sm) = { s0 with mx := .pointer (some ⟨X, 0, none⟩) }) := by show _ = _; rw [← hs0]
  rw [HSE.out] at HS5
  clear hs0 ht0 HSE
  go_upto_if 40 with fail
  generalize htb : decide (tt < 0) = tb
  have HTB : Hid (decide (tt < 0) = tb) := htb
  clear htb
  go_cut [12, 13] from 41 to 141 (fun _ _ wx => Hid (∃ vD', SumAt wx D (joinS tt s0 t0) vD' (joinL tt (bl ea na) (bl eb nb)) ∧ Kept w5 wx D vD))
  case first =>
    by_cases htt : tt < 0
    · have ht1 : tb = true := by rw [← HTB.out]; simp [htt]
      subst ht1
      have eS : joinS tt s0 t0 = mergeS s0 t0 := if_pos htt
      have eL : joinL tt (bl ea na) (bl eb nb) = addAll (bl ea na) (bl eb nb) := if_pos htt
      have HES : Hid (joinS tt s0 t0 = mergeS s0 t0) := eS
      have hCD : C ≠ D := ADC.out.1
      have hset : ∀ (y : World) (k : Nat) (z : Value) (o : Nat), (y.setCell ⟨D, k, none⟩ z).cell? ⟨C, o, none⟩ = y.cell? ⟨C, o, none⟩ := fun y k z o => World.cell?_of_block (w := y) (a := ⟨C, o, none⟩) (setCell_other3 y z hCD)
      have t0' : w5.cell? ⟨C, 0, none⟩ = some (.int .i64 t0.r) := HC5.out.cell 0
      obtain ⟨la, hlae⟩ : ∃ la, bl ea na = la := ⟨_, rfl⟩
      obtain ⟨lb, hlbe⟩ : ∃ lb, bl eb nb = lb := ⟨_, rfl⟩
      have HEL : Hid (joinL tt (bl ea na) (bl eb nb) = addAll la lb) := by rw [← hlae, ← hlbe]; exact eL
      rw [hlae] at HD5 hla
      rw [hlbe] at HC5 hlb HOK
      clear eS eL hlae hlbe htt
      clear HS5 HT5 AST ADS ADT ASC HvS HBW hva hvb
      go_upto_if 45 with fail
      go_cut [45] from 46 to 89 (fun _ wx => Hid (SumAt wx D (headS s0 t0) vD la ∧ Kept w5 wx D vD))
      case first =>
        have t1 : w5.cell? ⟨C, 1, none⟩ = some (.int .i64 t0.f) := HC5.out.cell 1
        have t2 : w5.cell? ⟨C, 2, none⟩ = some (.int .i64 t0.l) := HC5.out.cell 2
        have t3 : w5.cell? ⟨C, 3, none⟩ = some (.int .i64 t0.x) := HC5.out.cell 3
        have t4 : w5.cell? ⟨C, 4, none⟩ = some (.bool t0.ov) := HC5.out.cell 4
        have d0 : w5.cell? ⟨D, 0, none⟩ = some (.int .i64 s0.r) := HD5.out.cell 0
        have d1 : w5.cell? ⟨D, 1, none⟩ = some (.int .i64 s0.f) := HD5.out.cell 1
        have d2 : w5.cell? ⟨D, 2, none⟩ = some (.int .i64 s0.l) := HD5.out.cell 2
        have d3 : w5.cell? ⟨D, 3, none⟩ = some (.int .i64 s0.x) := HD5.out.cell 3
        have d4 : w5.cell? ⟨D, 4, none⟩ = some (.bool s0.ov) := HD5.out.cell 4
        have hf := HD5.out.frozen
        by_cases hr : 0 < t0.r
        · have hrb : decide (0 < t0.r) = true := by simp [hr]
          cases hz : (s0.r == 0)
          · go_upto_region 13 with fail
            go_region
            all_goals
              go_wp2_with fail
              go_meet
              have e : headS s0 t0 = { s0 with r := wrap64 (s0.r + t0.r), l := t0.l, x := t0.x, ov := t0.ov } := by
                have : s0.r ≠ 0 := by simpa using hz
                rw [headS, if_pos hr, if_neg this]
              rw [e]
              exact ⟨((((HD5.out.fld 0 (s' := { s0 with r := wrap64 (s0.r + t0.r) }) _ rfl).fld 2 (s' := { s0 with r := wrap64 (s0.r + t0.r), l := t0.l }) _ rfl).fld 3 (s' := { s0 with r := wrap64 (s0.r + t0.r), l := t0.l, x := t0.x }) _ rfl).fld 4 (s' := { s0 with r := wrap64 (s0.r + t0.r), l := t0.l, x := t0.x, ov := t0.ov }) _ rfl).of_heap rfl, (((((Kept.refl w5 D vD).set 0 _).set 2 _).set 3 _).set 4 _).drew⟩
          · go_upto_region 13 with fail
            go_region
            all_goals
              go_wp2_with fail
              go_meet
              have e : headS s0 t0 = { s0 with f := t0.f, r := wrap64 (s0.r + t0.r), l := t0.l, x := t0.x, ov := t0.ov } := by
                have : s0.r = 0 := by simpa using hz
                rw [headS, if_pos hr, if_pos this]
              rw [e]
              exact ⟨(((((HD5.out.fld 1 (s' := { s0 with f := t0.f }) _ rfl).fld 0 (s' := { s0 with f := t0.f, r := wrap64 (s0.r + t0.r) }) _ rfl).fld 2 (s' := { s0 with f := t0.f, r := wrap64 (s0.r + t0.r), l := t0.l }) _ rfl).fld 3 (s' := { s0 with f := t0.f, r := wrap64 (s0.r + t0.r), l := t0.l, x := t0.x }) _ rfl).fld 4 (s' := { s0 with f := t0.f, r := wrap64 (s0.r + t0.r), l := t0.l, x := t0.x, ov := t0.ov }) _ rfl).of_heap rfl, ((((((Kept.refl w5 D vD).set 1 _).set 0 _).set 2 _).set 3 _).set 4 _).drew⟩
        · have HE : Hid (headS s0 t0 = s0) := by show _ = _; rw [headS, if_neg hr]
          go_wp2_with fail
          go_meet
          rw [HE.out]
          exact ⟨HD5.out, Kept.refl _ _ _⟩
      case rest =>
        obtain ⟨hS0', hK0⟩ := hcut.out
        have HC0 : Hid (∃ v', SumAt wc D (headS s0 t0) v' (addAll la (lb.take 0)) ∧ Kept w5 wc D vD ∧ Loc w5 vD v') := ⟨vD, hS0', hK0, Loc.refl _ _⟩
        obtain ⟨au, nu, cu, hu⟩ : ∃ au nu cu, vC = .slice au nu cu := by
          obtain ⟨_, h0 | ⟨g, cap, cur, h0, _⟩⟩ := HC5.out.own
          · exact ⟨_, _, _, h0.1⟩
          · exact ⟨_, _, _, h0⟩
        subst hu
        have hnu : nu = lb.length := by
          obtain ⟨_, h0 | ⟨g, cap, cur, h0, _⟩⟩ := HC5.out.own
          · injection h0.1 with _ e; rw [e, h0.2]
          · injection h0
        have HNU : Hid (nu = lb.length) := hnu
        have hn4 : nu ≤ 1024 := by omega
        clear hS0' hK0 hcut hnu
        go_wp2_with fail
        go_loopw [12, 13] (fun iv _ wr => ∃ i : Nat, i ≤ nu ∧ iv = .int .i64 i ∧ Hid (∃ v', SumAt wr D (headS s0 t0) v' (addAll la (lb.take i)) ∧ Kept w5 wr D vD ∧ Loc w5 vD v')) (fun iv _ _ => nu - (intOf iv).toNat)
        case atStart => exact ⟨0, Nat.zero_le _, rfl, HC0⟩
        case round =>
          clear HC0
          obtain ⟨i, hin, rfl, HC⟩ := hrel
          obtain ⟨v1, hS1, hK1, hL1⟩ := HC.out
          have HS1 : Hid (SumAt wr D (headS s0 t0) v1 (addAll la (lb.take i))) := hS1
          have HK1 : Hid (Kept w5 wr D vD) := hK1
          have HL1 : Hid (Loc w5 vD v1) := hL1
          have HT1 : Hid (SumAt wr C t0 (.slice au nu cu) lb) := HC5.out.apart hK1 ADC.out
          have c5 : wr.cell? ⟨C, 5, none⟩ = some (.slice au nu cu) := HT1.out.cell 5
          clear hS1 hK1 hL1 HC t0'
          by_cases hlt : i < nu
          · have hml : i < lb.length := by rw [← HNU.out]; exact hlt
            obtain ⟨_, _, e, hc⟩ := Seen3.of_owns HT1.out.own
            obtain ⟨g, hg, hgl, hc⟩ := hc (by omega)
            rw [hg] at e
            injection e with e e2 e3
            subst e
            clear e2 e3
            obtain ⟨y, hy⟩ : ∃ y, y = lb[i] := ⟨_, rfl⟩
            have hck := hc i hml
            rw [← hy] at hck
            have HX : Hid (y = lb[i]) := hy
            have q0 : wr.cell? ⟨g, i * 3, none⟩ = some (.int .u16 y.a) := hck 0 (by omega)
            have q1 : wr.cell? ⟨g, i * 3 + 1, none⟩ = some (.int .u16 y.b) := hck 1 (by omega)
            have q2 : wr.cell? ⟨g, i * 3 + 2, none⟩ = some (.int .i64 y.n) := hck 2 (by omega)
            have hal := addAll_len la (lb.take i)
            rw [List.length_take] at hal
            clear hc hck hy hg
            go_upto_region 21 with fail
            have hBa : Below wr.heap.size wr (wr.alloc (.cells #[.int .u16 y.a, .int .u16 y.b, .int .i64 y.n] 66)) := (Below.refl _ _).alloc (Nat.le_refl _) _
            have HSa : Hid (SumAt (wr.alloc (.cells #[.int .u16 y.a, .int .u16 y.b, .int .i64 y.n] 66)) D (headS s0 t0) v1 (addAll la (lb.take i))) := HS1.out.below hBa
            have HKa : Hid (Kept w5 (wr.alloc (.cells #[.int .u16 y.a, .int .u16 y.b, .int .i64 y.n] 66)) D vD) := HK1.out.trans (Kept.of_below hBa) HL1.out
            have hN : (wr.alloc (.cells #[.int .u16 y.a, .int .u16 y.b, .int .i64 y.n] 66)).heap[wr.heap.size]? = some (.cells #[.int .u16 y.a, .int .u16 y.b, .int .i64 y.n] 66) := heap_alloc_new wr _
            have n0 : (wr.alloc (.cells #[.int .u16 y.a, .int .u16 y.b, .int .i64 y.n] 66)).cell? ⟨wr.heap.size, 0, none⟩ = some (.int .u16 y.a) := (cell_of_row _ _ _ _ _ _ hN).trans rfl
            have n1 : (wr.alloc (.cells #[.int .u16 y.a, .int .u16 y.b, .int .i64 y.n] 66)).cell? ⟨wr.heap.size, 1, none⟩ = some (.int .u16 y.b) := (cell_of_row _ _ _ _ _ _ hN).trans rfl
            have n2 : (wr.alloc (.cells #[.int .u16 y.a, .int .u16 y.b, .int .i64 y.n] 66)).cell? ⟨wr.heap.size, 2, none⟩ = some (.int .i64 y.n) := (cell_of_row _ _ _ _ _ _ hN).trans rfl
            have hAv : Hid (v1.ownBlock ≠ some wr.heap.size) := fun e => by have := own_lt3 HS1.out.own _ e; omega
            generalize wr.alloc (.cells #[.int .u16 y.a, .int .u16 y.b, .int .i64 y.n] 66) = W at HSa HKa n0 n1 n2 ⊢
            generalize wr.heap.size = A at n0 n1 n2 hAv ⊢
            have d5 : W.cell? ⟨D, 5, none⟩ = some v1 := HSa.out.cell 5
            have hadd := cadd_any (D + 1) v1 (addAll la (lb.take i)) y.a y.b y.n W.drew (by omega) (owns_of3 HSa.out.own (fun _ _ => rfl)) (by have := HSa.out.lt; show D + 1 ≤ W.heap.size; omega)
            have HADD : Hid (type_of% hadd) := hadd
            have htest : ∀ (w2 : World) (v' : Value) (l' : List Vc), Put W.drew w2 (D + 1) v1 v' l' → w2.cell? ⟨D, 5, none⟩ = some v1 ∧ w2.frozen? ⟨D, 5, none⟩ = false := fun w2 v' l' hput => by
              have hSb : w2.heap[D]? = some (.cells ((headS s0 t0).cells v1) 63) := (hput.grown.block D HSa.out.lt (fun e => by have := own_ge3 HSa.out.own D e.symm; omega)).trans HSa.out.blk
              exact ⟨(cell_of_row _ _ _ _ _ _ hSb).trans rfl, frozen_of_row _ _ _ _ _ hSb⟩
            have HTEST : Hid (type_of% htest) := htest
            have hend2 : ∀ (w2 : World) (v' : Value), Put W.drew w2 (D + 1) v1 v' (addV y.a y.b y.n (addAll la (lb.take i))) → Hid (∃ v'', SumAt (w2.setCell ⟨D, 5, none⟩ v') D (headS s0 t0) v'' (addAll la (lb.take (i + 1))) ∧ Kept w5 (w2.setCell ⟨D, 5, none⟩ v') D vD ∧ Loc w5 vD v'') := fun w2 v' hput => by
              obtain ⟨a1, a2, a3⟩ := sum_put (HSa.out.of_heap (w' := W.drew) rfl) hput
              refine ⟨v', ?_, HKa.out.drew.trans a2 HL1.out, HL1.out.trans a3 HKa.out.size⟩
              rw [addAll_take la lb i hml, ← HX.out]
              exact a1
            have HEND : Hid (type_of% hend2) := hend2
            have ha2 : ∀ (w2 : World) (v' : Value) (l' : List Vc), Put W.drew w2 (D + 1) v1 v' l' → w2.cell? ⟨D, 5, none⟩ = some v1 ∧ w2.cell? ⟨A, 0, none⟩ = some (.int .u16 y.a) ∧ w2.cell? ⟨A, 1, none⟩ = some (.int .u16 y.b) ∧ w2.cell? ⟨A, 2, none⟩ = some (.int .i64 y.n) := fun w2 v' l' hput => by
              have hAb : w2.heap[A]? = W.heap[A]? := hput.grown.block A (World.block_lt_of_cell? W _ n0) (fun e => hAv.out e.symm)
              exact ⟨(htest w2 v' l' hput).1, (World.cell?_of_block (w := W) (a := ⟨A, 0, none⟩) hAb).trans n0, (World.cell?_of_block (w := W) (a := ⟨A, 1, none⟩) hAb).trans n1, (World.cell?_of_block (w := W) (a := ⟨A, 2, none⟩) hAb).trans n2⟩
            have HA2 : Hid (type_of% ha2) := ha2
            clear hadd htest hend2 ha2 hN hBa q0 q1 q2 c5
            refine wp_region_lastN (S := fun w' => w'.cell? ⟨D, 5, none⟩ = some v1 ∧ w'.cell? ⟨A, 0, none⟩ = some (.int .u16 y.a) ∧ w'.cell? ⟨A, 1, none⟩ = some (.int .u16 y.b) ∧ w'.cell? ⟨A, 2, none⟩ = some (.int .i64 y.n)) 14 rfl rfl (by kernel_rfl) (by kernel_rfl) ⟨d5, n0, n1, n2⟩ ?_
            intro hSS
            simp only [List.pop_toArray, List.dropLast, List.getElem_toArray, List.getElem_cons_succ, List.getElem_cons_zero]
            refine wpAnyH_take (i := 0) (v := ?v0) rfl (by kernel_rfl) (by kernel_rfl) (by kernel_rfl) (fun _ _ _ h => h) (Or.inl ⟨by rfl, ?hy0⟩) hSS ?rest0
            case hy0 => (intro wz hSw; (try dsimp only at hSw); go_simp; try with_reducible rfl)
            simp only [Act.put, List.getElem_toArray, List.getElem_cons_zero, List.setIfInBounds_toArray, List.set_cons_zero, List.set_cons_succ]
            refine wpAnyH_take (i := 1) (v := ?v1) rfl (by kernel_rfl) (by kernel_rfl) (by kernel_rfl) (fun _ _ _ h => h) (Or.inl ⟨by rfl, ?hy1⟩) hSS ?rest1
            case hy1 => (intro wz hSw; (try dsimp only at hSw); go_simp; try with_reducible rfl)
            simp only [Act.put, List.getElem_toArray, List.getElem_cons_succ, List.getElem_cons_zero, List.setIfInBounds_toArray, List.set_cons_zero, List.set_cons_succ]
            refine wpAnyH_take (i := 2) (v := ?v2) rfl (by kernel_rfl) (by kernel_rfl) (by kernel_rfl) (fun _ _ _ h => h) (Or.inl ⟨by rfl, ?hy2⟩) hSS ?rest2
            case hy2 => (intro wz hSw; (try dsimp only at hSw); go_simp; try with_reducible rfl)
            simp only [Act.put, List.getElem_toArray, List.getElem_cons_succ, List.getElem_cons_zero, List.setIfInBounds_toArray, List.set_cons_zero, List.set_cons_succ]
            refine wpAnyH_take (i := 3) (v := ?v3) rfl (by kernel_rfl) (by kernel_rfl) (by kernel_rfl) (fun _ _ _ h => h) (Or.inl ⟨by rfl, ?hy3⟩) hSS ?rest3
            case hy3 => (intro wz hSw; (try dsimp only at hSw); go_simp; try with_reducible rfl)
            simp only [Act.put, List.getElem_toArray, List.getElem_cons_succ, List.getElem_cons_zero, List.setIfInBounds_toArray, List.set_cons_zero, List.set_cons_succ]
            refine wpAnyH_take (i := 4) (v := ?v4) rfl (by kernel_rfl) (by kernel_rfl) (by kernel_rfl) (fun _ _ _ h => h) (Or.inl ⟨by rfl, ?hy4⟩) hSS ?rest4
            case hy4 => (intro wz hSw; (try dsimp only at hSw); go_simp; try with_reducible rfl)
            simp only [Act.put, List.getElem_toArray, List.getElem_cons_succ, List.getElem_cons_zero, List.setIfInBounds_toArray, List.set_cons_zero, List.set_cons_succ]
            refine wpAnyH_take (i := 5) (v := ?v5) rfl (by kernel_rfl) (by kernel_rfl) (by kernel_rfl) (fun _ _ _ h => h) (Or.inl ⟨by rfl, ?hy5⟩) hSS ?rest5
            case hy5 => (intro wz hSw; (try dsimp only at hSw); go_simp; try with_reducible rfl)
            simp only [Act.put, List.getElem_toArray, List.getElem_cons_succ, List.getElem_cons_zero, List.setIfInBounds_toArray, List.set_cons_zero, List.set_cons_succ]
            refine wpAnyH_take (i := 6) (v := ?v6) rfl (by kernel_rfl) (by kernel_rfl) (by kernel_rfl) (fun _ _ _ h => h) (Or.inl ⟨by rfl, ?hy6⟩) hSS ?rest6
            case hy6 => (intro wz hSw; (try dsimp only at hSw); go_simp; try with_reducible rfl)
            simp only [Act.put, List.getElem_toArray, List.getElem_cons_succ, List.getElem_cons_zero, List.setIfInBounds_toArray, List.set_cons_zero, List.set_cons_succ]
            refine wpAnyH_take (i := 7) (v := ?v7) rfl (by kernel_rfl) (by kernel_rfl) (by kernel_rfl) (fun _ _ _ h => h) (Or.inl ⟨by rfl, ?hy7⟩) hSS ?rest7
            case hy7 => (intro wz hSw; (try dsimp only at hSw); go_simp; try with_reducible rfl)
            simp only [Act.put, List.getElem_toArray, List.getElem_cons_succ, List.getElem_cons_zero, List.setIfInBounds_toArray, List.set_cons_zero, List.set_cons_succ]
            refine wpAnyH_take (i := 8) (v := ?v8) rfl (by kernel_rfl) (by kernel_rfl) (by kernel_rfl) (fun _ _ _ h => h) (Or.inl ⟨by rfl, ?hy8⟩) hSS ?rest8
            case hy8 => (intro wz hSw; (try dsimp only at hSw); go_simp; try with_reducible rfl)
            simp only [Act.put, List.getElem_toArray, List.getElem_cons_succ, List.getElem_cons_zero, List.setIfInBounds_toArray, List.set_cons_zero, List.set_cons_succ]
            refine wpAnyH_take (i := 9) (v := ?v9) rfl (by kernel_rfl) (by kernel_rfl) (by kernel_rfl) (fun _ _ _ h => h) (Or.inl ⟨by rfl, ?hy9⟩) hSS ?rest9
            case hy9 => (intro wz hSw; (try dsimp only at hSw); go_simp; try with_reducible rfl)
            simp only [Act.put, List.getElem_toArray, List.getElem_cons_succ, List.getElem_cons_zero, List.setIfInBounds_toArray, List.set_cons_zero, List.set_cons_succ]
            refine wpAnyH_take (i := 10) (v := ?v10) rfl (by kernel_rfl) (by kernel_rfl) (by kernel_rfl) (fun _ _ _ h => h) (Or.inl ⟨by rfl, ?hy10⟩) hSS ?rest10
            case hy10 => (intro wz hSw; (try dsimp only at hSw); go_simp; try with_reducible rfl)
            simp only [Act.put, List.getElem_toArray, List.getElem_cons_succ, List.getElem_cons_zero, List.setIfInBounds_toArray, List.set_cons_zero, List.set_cons_succ]
            refine wpAnyH_ready (rs := [11]) (by kernel_rfl) (by simp) ?_
            refine AllReadyH.cons rfl (fun K hK => ?_) AllReadyH.nil
            simp only [List.getElem_toArray, List.getElem_cons_succ, List.getElem_cons_zero]
            go_simp
            refine (HADD.out).mono ?_
            rintro e w2 ⟨v', rfl, hput⟩
            obtain ⟨g', cap, hvv, hg1, hg2⟩ := hput.own.form (addV_pos _ _ _ _)
            have hs2 := HTEST.out w2 _ _ hput
            have HFIN := HEND.out w2 _ hput
            have hS2 := HA2.out w2 _ _ hput
            generalize (addV y.a y.b y.n (addAll la (lb.take i))).length = len at hvv
            subst hvv
            clear hput
            refine hK.out _ _ hS2 (fun hS2 => ?_)
            clear hK
            refine wpAnyH_take (i := 12) (v := ?v12) rfl (by kernel_rfl) (by kernel_rfl) (by kernel_rfl) (fun _ _ _ h => h) (Or.inl ⟨by rfl, ?hy12⟩) hS2 ?rest12
            case hy12 => (intro wz hSw; (try dsimp only at hSw); go_simp; try with_reducible rfl)
            simp only [Act.put, List.getElem_toArray, List.getElem_cons_succ, List.getElem_cons_zero, List.setIfInBounds_toArray, List.set_cons_zero, List.set_cons_succ]
            refine wpAnyH_take (i := 13) (v := ?v13) rfl (by kernel_rfl) (by kernel_rfl) (by kernel_rfl) (fun _ _ _ h => h) (Or.inl ⟨by rfl, ?hy13⟩) hS2 ?rest13
            case hy13 => (intro wz hSw; (try dsimp only at hSw); go_simp; try with_reducible rfl)
            simp only [Act.put, List.getElem_toArray, List.getElem_cons_succ, List.getElem_cons_zero, List.setIfInBounds_toArray, List.set_cons_zero, List.set_cons_succ]
            refine wpAnyH_done (by kernel_rfl) ?_ _
            simp only [lastQ]
            go_simp
            go_wp2_with fail
            go_roundw
            case rel => exact ⟨i + 1, by omega, by go_num, HFIN⟩
            case measure => simp [intOf]; omega
          · have hie : i = lb.length := by rw [← HNU.out]; omega
            have HS2 : Hid (SumAt wr D (headS s0 t0) v1 (addAll la lb)) := by
              have := HS1.out
              rw [hie, List.take_length] at this
              exact this
            have r6 : wr.cell? ⟨D, 6, none⟩ = some (.int .i64 (headS s0 t0).sk) := HS2.out.cell 6
            have r7 : wr.cell? ⟨D, 7, none⟩ = some (.int .i64 (headS s0 t0).dm) := HS2.out.cell 7
            have k6 : wr.cell? ⟨C, 6, none⟩ = some (.int .i64 t0.sk) := HT1.out.cell 6
            have k7 : wr.cell? ⟨C, 7, none⟩ = some (.int .i64 t0.dm) := HT1.out.cell 7
            have hf := HS2.out.frozen
            clear HS1 hie
            go_upto_region 22 with fail
            go_region
            all_goals
              go_upto_region 23 with fail
              go_region
              all_goals
                go_wp2_with fail
                go_meet
                have e : mergeS s0 t0 = { headS s0 t0 with sk := wrap64 ((headS s0 t0).sk + t0.sk), dm := wrap64 ((headS s0 t0).dm + t0.dm) } := by
                  have e1 : (headS s0 t0).sk = s0.sk := by unfold headS; split <;> rfl
                  have e2 : (headS s0 t0).dm = s0.dm := by unfold headS; split <;> rfl
                  rw [mergeS, e1, e2]
                refine ⟨v1, ?_, (((HK1.out.trans ((Kept.refl wr D v1).set 6 _) HL1.out).trans ((Kept.refl _ D v1).set 7 _) HL1.out).drew).drew⟩
                rw [HES.out, HEL.out, e]
                exact ((HS2.out.fld 6 (s' := { headS s0 t0 with sk := wrap64 ((headS s0 t0).sk + t0.sk) }) _ rfl).fld 7 (s' := { headS s0 t0 with sk := wrap64 ((headS s0 t0).sk + t0.sk), dm := wrap64 ((headS s0 t0).dm + t0.dm) }) _ rfl).of_heap rfl
    · have ht1 : tb = false := by rw [← HTB.out]; simp [htt]
      subst ht1
      have HES : Hid (joinS tt s0 t0 = s0) := if_neg htt
      have HEL : Hid (joinL tt (bl ea na) (bl eb nb) = bl ea na) := if_neg htt
      go_wp2_with fail
      go_meet
      rw [HES.out, HEL.out]
      exact ⟨vD, HD5.out, Kept.refl _ _ _⟩
  case rest =>
    obtain ⟨vD', hD6, hK6⟩ := hcut.out
    have HD6 : Hid (SumAt wc D (joinS tt s0 t0) vD' (joinL tt (bl ea na) (bl eb nb))) := hD6
    have HS6 : Hid (SumAt wc S { s0 with mx := .pointer (some ⟨X, 0, none⟩) } vS (bl ea na)) := HS5.out.apart hK6 ADS.out
    have HT6 : Hid (SumAt wc T t0 vT (bl eb nb)) := HT5.out.apart hK6 ADT.out
    have HC6 : Hid (SumAt wc C t0 vC (bl eb nb)) := HC5.out.apart hK6 ADC.out
    have HBc : Hid (Below w.heap.size w wc) := Below.ofKept HBW.out hK6 HBW.out.size hwD (fun g hg => by have := own_ge3 HD5.out.own g hg; omega)
    have hjl := joinL_len tt (bl ea na) (bl eb nb)
    clear hD6 hK6 hcut
    go_wp2_with fail
    refine (sjoin_any S T _ t0 vS vT (bl ea na) (bl eb nb) tt wc (by omega) (bl_sorted ea na) HOK HS6 HT6 AST).mono ?_
    rintro e w7 ⟨rfl, vS', hS7, hK7, _⟩
    have HS7 : Hid (SumAt w7 S (joinS tt { s0 with mx := .pointer (some ⟨X, 0, none⟩) } t0) vS' (joinL tt (bl ea na) (bl eb nb))) := hS7
    have HD7 : Hid (SumAt w7 D (joinS tt s0 t0) vD' (joinL tt (bl ea na) (bl eb nb))) := HD6.out.apart hK7 (apart_new (K := w4.heap.size) HvS.out hSD hD0 (fun g hg => own_ge3 HD6.out.own g hg)).1
    have HT7 : Hid (SumAt w7 T t0 vT (bl eb nb)) := HT6.out.apart hK7 AST.out
    have HC7 : Hid (SumAt w7 C t0 vC (bl eb nb)) := HC6.out.apart hK7 ASC.out
    have HB7 : Hid (Below w.heap.size w w7) := Below.ofKept HBc.out hK7 HBc.out.size hwS (fun g hg => by have := own_ge3 HS6.out.own g hg; omega)
    have c8 : w7.cell? ⟨S, 8, none⟩ = some (.pointer (some ⟨X, 0, none⟩)) := (HS7.out.cell 8).trans (by
      show some (joinS tt { s0 with mx := .pointer (some ⟨X, 0, none⟩) } t0).mx = _
      rw [joinS_mx])
    have hmx := eqMax X
    clear hS7 hK7
    go_wp2_with fail
    refine (ceq_same S D _ _ vS' vD' _ w7 (by omega) HS7 HD7 (joinS_but tt s0 t0 _)).mono ?_
    rintro e w8 ⟨rfl, q, rfl⟩
    go_wp2_with fail
    refine (ceq_same T C t0 t0 vT vC _ (w7.drewN q) (by omega) (HT7.out.of_heap rfl) (HC7.out.of_heap rfl) rfl).mono ?_
    rintro e w9 ⟨rfl, q2, rfl⟩
    go_wp2
    go_ret
    have hb := HB7.out
    exact ⟨rfl, ⟨hb.os, hb.tape, hb.output, hb.size, hb.block⟩⟩
end Go.Proofs.Ybulkakms
