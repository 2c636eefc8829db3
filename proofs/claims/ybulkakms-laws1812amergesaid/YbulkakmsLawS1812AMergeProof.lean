import Derived.Test.YbulkakmsRows
import Derived.Test.YbulkakmsALaw
import Derived.ProofKit
import Derived.OpenShut
import Derived.ShutString
import Derived.ChangeOld
import Derived.Below
import Derived.Deep.Slices
import Derived.Deep.Grids
namespace Go.Proofs.Ybulkakms.lawS1812AMerge
open Go.ChangeShapes Go.WideShapes Go.ChangeAt Go.WideMaps Go.WideElems Go.RowKit

theorem own : ownKnob Yba.prog.godebug = none := by kernel_rfl
theorem laidOut : laidOutB Yba.prog = true := by kernel_rfl
theorem cells84 : Yba.prog.cellsOf 84 = 7 := by kernel_rfl
theorem cells5 : Yba.prog.cellsOf 5 = 1 := by kernel_rfl
theorem cells2 : Yba.prog.cellsOf 2 = 1 := by kernel_rfl
theorem cells4 : Yba.prog.cellsOf 4 = 1 := by kernel_rfl

theorem at_field {cs : List Value} {o : Nat} {v : Value} (h : (cs.drop o).take 1 = [v]) : cs[o]? = some v := by
  have h0 := congrArg (fun l : List Value => l[0]?) h
  simpa [List.getElem?_take, List.getElem?_drop] using h0

theorem trod_struct7 {H : Type} {enc : TypeId × Value → H} {P : Program} {w : World} {base : Nat} {spare : Nat → Bool} {held : Bool} {t : TypeId} {f0 f1 f2 f3 f4 f5 f6 : Field} {fuel : Nat} {cs : List Value} {x : DataW H × List MemPlace} (ht : P.underlying t = some (.struct #[f0, f1, f2, f3, f4, f5, f6])) (h : DataW.trod enc P w base spare held fuel t cs = some x) :
    ∃ y0 y1 y2 y3 y4 y5 y6 n, DataW.trod enc P w base spare held n f0.type ((cs.drop f0.offset).take (P.cellsOf f0.type)) = some y0 ∧ DataW.trod enc P w base spare held n f1.type ((cs.drop f1.offset).take (P.cellsOf f1.type)) = some y1 ∧
      DataW.trod enc P w base spare held n f2.type ((cs.drop f2.offset).take (P.cellsOf f2.type)) = some y2 ∧ DataW.trod enc P w base spare held n f3.type ((cs.drop f3.offset).take (P.cellsOf f3.type)) = some y3 ∧
      DataW.trod enc P w base spare held n f4.type ((cs.drop f4.offset).take (P.cellsOf f4.type)) = some y4 ∧ DataW.trod enc P w base spare held n f5.type ((cs.drop f5.offset).take (P.cellsOf f5.type)) = some y5 ∧
      DataW.trod enc P w base spare held n f6.type ((cs.drop f6.offset).take (P.cellsOf f6.type)) = some y6 := by
  obtain ⟨xs, n, _, rfl, hl, hlen, hf⟩ := DataW.trod_struct ht h
  match xs, hlen with
  | [y0, y1, y2, y3, y4, y5, y6], _ => exact ⟨y0, y1, y2, y3, y4, y5, y6, n, by simpa using hf 0 f0 rfl, by simpa using hf 1 f1 rfl, by simpa using hf 2 f2 rfl, by simpa using hf 3 f3 rfl, by simpa using hf 4 f4 rfl, by simpa using hf 5 f5 rfl, by simpa using hf 6 f6 rfl⟩

/-- what a slice of spans that came in is to the walk. -/
theorem spans_in {H : Type} {enc : TypeId × Value → H} {W : World} {a0 : Option Addr} {len cap : Nat} {d : DataW H} {p : List MemPlace} (h : DataW.Trod enc Yba.prog W 0 (fun _ => true) true 22 (.slice a0 len cap) d p) :
    ∃ sp : Nat → Sp, SpansAt W a0 len sp := by
  obtain ⟨fuel, hf⟩ := h
  rcases Go.Deep.open_slice Yba.underlying22 hf with ⟨hcs, _⟩ | ⟨x, l, c, m, n, D, Pl, hcs, _, hl, _, hmm, _, hel⟩
  · simp [Value.cells] at hcs
    obtain ⟨rfl, rfl, rfl⟩ := hcs
    exact ⟨fun _ => ⟨0, 0, 0, 0, 0, false, false⟩, fun h => by omega⟩
  · simp [Value.cells] at hcs
    obtain ⟨rfl, rfl, rfl⟩ := hcs
    rw [cells84] at hel
    have hm : m = cap := by simpa using hmm
    subst hm
    have hst : ∀ i, ∃ s : Sp, i < len → (s.ok ∧ ∀ k, k < 7 → W.cell? ((x.add (i * 7)).add k) = s.v[k]?) := fun i => by
      by_cases hi : i < len
      · obtain ⟨cs', h1, h2⟩ := hel i (by omega)
        obtain ⟨_, hlen, hcell⟩ := World.cells?_some h1
        obtain ⟨y0, y1, y2, y3, y4, y5, y6, n', f0, f1, f2, f3, f4, f5, f6⟩ := trod_struct7 Yba.underlying84 h2
        rw [cells5] at f0 f3 f4
        rw [cells2] at f1 f2
        rw [cells4] at f5 f6
        obtain ⟨a0, g0, _, w0⟩ := DataW.trod_int Yba.underlying5 f0
        obtain ⟨a1, g1, _, _⟩ := DataW.trod_int Yba.underlying2 f1
        obtain ⟨a2, g2, _, _⟩ := DataW.trod_int Yba.underlying2 f2
        obtain ⟨a3, g3, _, w3⟩ := DataW.trod_int Yba.underlying5 f3
        obtain ⟨a4, g4, _, w4⟩ := DataW.trod_int Yba.underlying5 f4
        obtain ⟨a5, g5, _⟩ := DataW.trod_bool Yba.underlying4 f5
        obtain ⟨a6, g6, _⟩ := DataW.trod_bool Yba.underlying4 f6
        have b0 := bounds_u8 w0
        have b3 := bounds_u8 w3
        have b4 := bounds_u8 w4
        refine ⟨⟨a0, a1, a2, a3, a4, a5, a6⟩, fun _ => ⟨⟨b0.1, b0.2, b3.1, b3.2, b4.1, b4.2⟩, fun k hk => ?_⟩⟩
        have c := hcell k (by omega)
        refine c.trans ?_
        have hk7 : k = 0 ∨ k = 1 ∨ k = 2 ∨ k = 3 ∨ k = 4 ∨ k = 5 ∨ k = 6 := by omega
        rcases hk7 with rfl | rfl | rfl | rfl | rfl | rfl | rfl
        · exact at_field g0
        · exact at_field g1
        · exact at_field g2
        · exact at_field g3
        · exact at_field g4
        · exact at_field g5
        · exact at_field g6
      · exact ⟨⟨0, 0, 0, 0, 0, false, false⟩, fun h => absurd h hi⟩
    obtain ⟨sp, hsp⟩ := Classical.axiomOfChoice hst
    refine ⟨sp, fun hp => ?_⟩
    obtain ⟨b, off, spot⟩ := x
    have h0 := (hsp 0 hp).2 0 (by omega)
    have h0' : W.cell? ((Addr.add ⟨b, off, spot⟩ (0 * 7)).add 0) = some (.int .u8 (sp 0).dir) := h0
    have hspot : spot = none := by simpa [Addr.add] using World.cell?_spot h0'
    subst hspot
    refine ⟨b, off, rfl, World.block_lt_of_cell? W _ h0', fun i hi => ⟨(hsp i hi).1, fun k hk => ?_⟩⟩
    have := (hsp i hi).2 k hk
    rw [add_plain, add_plain] at this
    exact this

/-- what a slice of bytes that came in is to the walk. -/
theorem bytes_in {H : Type} {enc : TypeId × Value → H} {W : World} {a0 : Option Addr} {len cap : Nat} {d : DataW H} {p : List MemPlace} (h : DataW.Trod enc Yba.prog W 0 (fun _ => true) true 23 (.slice a0 len cap) d p) :
    ∃ z : Nat → Int, BytesAt W a0 len z := by
  obtain ⟨fuel, hf⟩ := h
  rcases open_ints Yba.underlying23 Yba.underlying5 (by kernel_rfl) hf with ⟨hcs, _⟩ | ⟨x, l, c, zs, hcs, _, hl, hm, hz, _, hcell, hwz⟩
  · simp [Value.cells] at hcs
    obtain ⟨rfl, rfl, rfl⟩ := hcs
    exact ⟨fun _ => 0, fun h => by omega⟩
  · simp [Value.cells] at hcs
    obtain ⟨rfl, rfl, rfl⟩ := hcs
    refine ⟨fun i => zs.getD i 0, fun hp => ?_⟩
    have hz' : zs.length = cap := by simpa using hz
    obtain ⟨b, off, spot⟩ := x
    have h0 := hcell 0 (by omega)
    have hspot : spot = none := by simpa [Addr.add] using World.cell?_spot h0
    subst hspot
    refine ⟨b, off, rfl, ?_, fun i hi => ?_⟩
    · have := World.block_lt_of_cell? W _ h0
      simpa [Addr.add] using this
    · have hi' : i < zs.length := by omega
      have hb := bounds_u8 (hwz (zs.getD i 0) (by rw [List.getD_eq_getElem?_getD, List.getElem?_eq_getElem hi']; exact List.getElem_mem hi'))
      refine ⟨hb.1, hb.2, ?_⟩
      rw [← add_plain]
      exact hcell i (by omega)

set_option maxRecDepth 100000 in
theorem lifted (os : Os) (started : os.Started) (H : Type) (enc : TypeId × Value → H) :
    ReturnsInHanded {} Yba.checked os 3 .any (Rows.lawS1812AMergeSpec.pre6 enc Yba.prog Yba.f3 Rows.lawS1812AMergeRow.domain false) (Rows.lawS1812AMergeSpec.post enc Yba.prog Yba.f3 false true false false) := by
  refine returnsInHanded_of_change (C := Yba.checked) own started (by kernel_rfl) Yba.func3
    (ChangeSpec.witness6 (enc := enc) (C := Yba.checked) false ⟨#[], #[.slice none 0 0, .slice none 0 0, .slice none 0 0, .slice none 0 0, .int .i64 0], []⟩ 8 (by kernel_rfl) (by kernel_rfl) (by kernel_rfl) (by kernel_rfl)) ?_
  intro W base args ds gs before hval0 hW hcnd _
  have hval : ∀ (j : Nat) t v, Yba.f3.params[j]? = some t → args[j]? = some v → Value.okWide Yba.prog W .any base t v := hval0
  have hW' := hW
  obtain ⟨p, q, hA0, hV, rfl, hfz, hnd⟩ := hW
  have hA : DataW.TrodAll enc Yba.prog W 0 (fun _ => true) true Yba.f3.params.toList args.toList ds p := hA0
  rw [Yba.params3] at hA hval
  obtain ⟨v0, vs0, d0, ds0, p0, q0, hargs, rfl, rfl, h0, r0⟩ := trodAll_cons hA
  obtain ⟨v1, vs1, d1, ds1, p1, q1, rfl, rfl, rfl, h1, r1⟩ := trodAll_cons r0
  obtain ⟨v2, vs2, d2, ds2, p2, q2, rfl, rfl, rfl, h2, r2⟩ := trodAll_cons r1
  obtain ⟨v3, vs3, d3, ds3, p3, q3, rfl, rfl, rfl, h3, r3⟩ := trodAll_cons r2
  obtain ⟨v4, vs4, d4, ds4, p4, q4, rfl, rfl, rfl, h4, r4⟩ := trodAll_cons r3
  obtain ⟨rfl, rfl, rfl⟩ := trodAll_nil r4
  obtain rfl : args = #[v0, v1, v2, v3, v4] := by cases args; simp_all
  obtain ⟨rfl, rfl⟩ := trodVars_none hV
  obtain ⟨a0, len0, cap0, rfl⟩ := okWide_slice Yba.underlying22 (hval 0 22 v0 rfl rfl)
  obtain ⟨a1, len1, cap1, rfl⟩ := okWide_slice Yba.underlying22 (hval 1 22 v1 rfl rfl)
  obtain ⟨a2, len2, cap2, rfl⟩ := okWide_slice Yba.underlying23 (hval 2 23 v2 rfl rfl)
  obtain ⟨a3, len3, cap3, rfl⟩ := okWide_slice Yba.underlying23 (hval 3 23 v3 rfl rfl)
  have lt0 : ∀ x ∈ p0, x.block < W.heap.size := by obtain ⟨m, hm⟩ := h0; exact DataW.trod_lt m _ _ _ hm
  have lt1 : ∀ x ∈ p1, x.block < W.heap.size := by obtain ⟨m, hm⟩ := h1; exact DataW.trod_lt m _ _ _ hm
  have lt2 : ∀ x ∈ p2, x.block < W.heap.size := by obtain ⟨m, hm⟩ := h2; exact DataW.trod_lt m _ _ _ hm
  have lt3 : ∀ x ∈ p3, x.block < W.heap.size := by obtain ⟨m, hm⟩ := h3; exact DataW.trod_lt m _ _ _ hm
  obtain ⟨s0, w0⟩ := spans_in h0
  obtain ⟨s1, w1⟩ := spans_in h1
  obtain ⟨z0, w2⟩ := bytes_in h2
  obtain ⟨z1, w3⟩ := bytes_in h3
  obtain ⟨a4, rfl, rfl, rfl, w4⟩ := open_int Yba.underlying3 (hval 4 3 v4 rfl rfl) h4
  clear hA0 hval0
  have hC : Calls Yba.prog 3 #[.slice a0 len0 cap0, .slice a1 len1 cap1, .slice a2 len2 cap2, .slice a3 len3 cap3, .int .i64 a4] W fun e w' => e = .returned (.bool true) ∧ Below W.heap.size W w' := by
    by_cases hl : len0 ≤ 1024 ∧ len1 ≤ 1024 ∧ len2 ≤ 1024 ∧ len3 ≤ 1024
    · exact merge_any a0 a1 a2 a3 len0 len1 len2 len3 cap0 cap1 cap2 cap3 s0 s1 z0 z1 a4 W hl.1 hl.2.1 hl.2.2.1 hl.2.2.2 w0 w1 w2 w3
    · exact (merge_long a0 a1 a2 a3 len0 len1 len2 len3 cap0 cap1 cap2 cap3 a4 W hl).mono fun e w' ⟨he, hw⟩ => ⟨he, hw ▸ Below.refl _ _⟩
  refine hC.mono fun e W' ⟨he, bel⟩ => ?_
  subst he
  exact ⟨_, rfl, _, _, _, [], _, [], hW', trodAll_mk1 (shut_bool Yba.underlying4 _), (trodAll_cons_mk (Below.trod laidOut (by kernel_rfl) (of_decide_eq_true (by kernel_rfl)) h0 bel lt0) (trodAll_cons_mk (Below.trod laidOut (by kernel_rfl) (of_decide_eq_true (by kernel_rfl)) h1 bel lt1) (trodAll_cons_mk (Below.trod laidOut (by kernel_rfl) (of_decide_eq_true (by kernel_rfl)) h2 bel lt2) (trodAll_cons_mk (Below.trod laidOut (by kernel_rfl) (of_decide_eq_true (by kernel_rfl)) h3 bel lt3) (trodAll_cons_mk (shut_int Yba.underlying3 w4) trodAll_mk0))))), rfl, bel.frame _, fun h => by cases h⟩

theorem over : Rows.lawS1812AMergeRow.holds Yba.pinned (OpenSpec.ofChange Rows.lawS1812AMergeSpec) :=
  OpenClaim.holds_of_wide 3 Yba.f3 rfl rfl rfl rfl rfl rfl rfl ⟨rfl, rfl, rfl, rfl, rfl⟩ rfl rfl rfl rfl rfl (by kernel_rfl) Yba.func3 (by kernel_rfl)
    (of_decide_eq_true (by kernel_rfl)) (by unfold Func.isWrapper; first | (rw [if_pos (by decide +kernel)]; kernel_rfl) | (rw [if_neg (by decide +kernel)]; exact ⟨rfl, rfl⟩))
    (fun os started H enc _ => lifted os started H enc)

theorem proved : Rows.LawS1812AMergeSaid := over
#print axioms proved
end Go.Proofs.Ybulkakms.lawS1812AMerge
namespace Go.Proofs.Ybulkakms
theorem LawS1812AMerge_proved : Rows.LawS1812AMergeSaid := lawS1812AMerge.proved
end Go.Proofs.Ybulkakms
