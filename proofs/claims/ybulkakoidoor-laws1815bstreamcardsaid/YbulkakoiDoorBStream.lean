import Derived.Test.YbulkakoiDoorStream6
import Derived.Test.YbulkakoiDoorBHeld
import Derived.Stop.LaidTwo
namespace Go.Proofs.YbulkakoiDoor
open Go.ChangeShapes Go.WideShapes Go.ChangeAt Go.WideMaps Go.WideElems Go.RowKit

namespace BStream

/-- a listed variable left out, the first kept. -/
theorem laid_skip {P : Program} {x y : String × DataW Unit} {r : List (String × DataW Unit)} {W : World} (h : laidMet P (x :: y :: r) W) : laidMet P (x :: r) W := by
  obtain ⟨n0, d0⟩ := x
  obtain ⟨n1, d1⟩ := y
  obtain ⟨ps, ⟨g0, t0, cs0, f0, p0, q0, hg0, ht0, hv0, hd0, ⟨g1, t1, cs1, f1, p1, q1, _, _, _, _, h1, e1⟩, e0⟩, hnd, hrows⟩ := h
  have hsub : List.Sublist (MemPlace.row ⟨g0, 0, none⟩ cs0.size ++ p0 ++ q1) ps := by
    rw [e0, e1]
    exact (List.Sublist.refl _).append ((List.sublist_append_right _ _))
  exact ⟨_, ⟨g0, t0, cs0, f0, p0, q1, hg0, ht0, hv0, hd0, h1, rfl⟩, hnd.sublist hsub, fun b off hm => hrows b off (hsub.subset hm)⟩

/-- the listed names, as the row has them. -/
def nameAt (j : Nat) : String := ((Rows.lawS1815BStreamRow.laid.map (·.1))[j]?).getD ""
def errName : String := match (Rows.laid_io_EOF : DataW Unit) with | .iface nm _ => nm | _ => ""

theorem row103 (u : TypeId) (h : Ybad.prog.typeName? 3 u = some errName) : u = 103 := by
  refine typeName_ptr_named (P := Ybad.prog) (nm := "errors.errorString") (by kernel_rfl) (by kernel_rfl) (by decide) u ?_
  refine h.trans (congrArg some ?_)
  rfl

theorem g0 : Ybad.prog.globalNamed (nameAt 0) = some 0 := by kernel_rfl
theorem t0 : (Ybad.prog.globals[0]?).map (·.type) = some 30 := by kernel_rfl
theorem g1 : Ybad.prog.globalNamed (nameAt 3) = some 1 := by kernel_rfl
theorem t1 : (Ybad.prog.globals[1]?).map (·.type) = some 30 := by kernel_rfl
theorem g5 : Ybad.prog.globalNamed (nameAt 1) = some 5 := by kernel_rfl
theorem t5 : (Ybad.prog.globals[5]?).map (·.type) = some 30 := by kernel_rfl
theorem cells145 : Ybad.prog.cellsOf 145 = 1 := by kernel_rfl
theorem cells9 : Ybad.prog.cellsOf 9 = 1 := by kernel_rfl

theorem sents_of {W : World} (h : laidMetH Ybad.prog Rows.lawS1815BStreamRow.laid W) : ∃ a a1, Sents W a a1 := by
  rw [MakeChecks.laidMetH_plain _ _ _ (by kernel_rfl)] at h
  have h' : laidMet Ybad.prog [(nameAt 0, Rows.laid_io_EOF), (nameAt 1, Rows.laid_io_ErrNoProgress), (nameAt 2, Rows.laid_bufio_ErrBufferFull), (nameAt 3, Rows.laid_bufio_ErrNegativeCount), (nameAt 4, Rows.laid_bufio_errNegativeRead)] W := h
  obtain ⟨a0, s0, hv5, _⟩ := laid_sentinel (laidMet.tail h') g5 t5 Ybad.underlying30 row103 Ybad.underlying103 Ybad.underlying145 rfl rfl Ybad.underlying9 cells145 cells9
  have h2 := laid_skip (laid_skip h')
  obtain ⟨a, a1, s0, s1, c0, c1, t0', t1', hv0, hv1, hc0, hs0, hz0, hc1, hs1, hz1, hne, hb0, hb1⟩ := laid_sentinels2 h2 g0 t0 g1 t1 Ybad.underlying30 row103 Ybad.underlying103 Ybad.underlying145 rfl rfl Ybad.underlying9 cells145 cells9
  refine ⟨a, a1, ?_, ?_, Ne.symm hne, ?_, ⟨c1, t1', hb1⟩, ⟨c0, t0', hb0⟩⟩
  · simpa using World.var?_cell g0 hv0 0
  · simpa using World.var?_cell g1 hv1 0
  · have h5 : W.cell? ⟨5, 0, none⟩ = some (.iface 103 (.pointer (some a0))) := by simpa using World.var?_cell g5 hv5 0
    have := World.block_lt_of_cell? W _ h5
    exact this

/-- The door's own heap meets the condition. -/
theorem door_met (os : Os) (args : Array Value) : laidMetH Ybad.prog Rows.lawS1815BStreamRow.laid ((World.doorLaid Ybad.prog 124 os).forCall (fun _ _ => 0) ⟨#[], args, []⟩).memory :=
  laidMetH_of_parts3 (fuel := 8) (laidMet_of_run' 8 (by kernel_rfl) (by kernel_rfl)) (by kernel_rfl) (by kernel_rfl)

set_option maxRecDepth 100000 in
theorem lifted (os : Os) (started : os.Started) (H : Type) (enc : TypeId × Value → H) :
    ReturnsInHanded {} Ybad.checked os 3 .any (fun w args => (Rows.lawS1815BStreamSpec.pre enc Ybad.prog Ybad.f3 [] false w args ∧ laidMetH Ybad.prog Rows.lawS1815BStreamRow.laid w) ∧ sizedMet enc Ybad.prog Ybad.f3 (OpenSpec.ofChange Rows.lawS1815BStreamSpec) false w args)
      (Rows.lawS1815BStreamSpec.post enc Ybad.prog Ybad.f3 false true false false) := by
  refine returnsInHanded_of_change_and (C := Ybad.checked) (X := fun w _ => laidMetH Ybad.prog Rows.lawS1815BStreamRow.laid w) (fun _ _ _ hh h => h.of_heap hh) BHeld.own started (by kernel_rfl) Ybad.func3
    (ChangeSpec.witness_shaped (enc := enc) (C := Ybad.checked) (os := os) (X := fun w _ => laidMetH Ybad.prog Rows.lawS1815BStreamRow.laid w) false (World.doorLaid Ybad.prog 124 os) #[.slice none 0 0, .int .u8 0, .int .u16 0, .int .u16 0, .bool false] 8 rfl (World.shaped_of_RefB (by kernel_rfl) (by kernel_rfl)) (by kernel_rfl) (by kernel_rfl) (by kernel_rfl) (door_met os _)) ?_
  intro W base args ds gs before hval0 hW _ _ hL _
  have hval : ∀ (j : Nat) t v, Ybad.f3.params[j]? = some t → args[j]? = some v → Value.okWide Ybad.prog W .any base t v := hval0
  have hW' := hW
  obtain ⟨p, q, hA0, hV, rfl, hfz, hnd⟩ := hW
  have hA : DataW.TrodAll enc Ybad.prog W 0 (fun _ => true) true Ybad.f3.params.toList args.toList ds p := hA0
  rw [Ybad.params3] at hA hval
  obtain ⟨v0, vs0, d0, ds0, p0, q0, hargs, rfl, rfl, h0, r0⟩ := trodAll_cons hA
  obtain ⟨v1, vs1, d1, ds1, p1, q1, rfl, rfl, rfl, h1, r1⟩ := trodAll_cons r0
  obtain ⟨v2, vs2, d2, ds2, p2, q2, rfl, rfl, rfl, h2, r2⟩ := trodAll_cons r1
  obtain ⟨v3, vs3, d3, ds3, p3, q3, rfl, rfl, rfl, h3, r3⟩ := trodAll_cons r2
  obtain ⟨v4, vs4, d4, ds4, p4, q4, rfl, rfl, rfl, h4, r4⟩ := trodAll_cons r3
  obtain ⟨rfl, rfl, rfl⟩ := trodAll_nil r4
  obtain rfl : args = #[v0, v1, v2, v3, v4] := by cases args; simp_all
  obtain ⟨rfl, rfl⟩ := trodVars_none hV
  obtain ⟨a0, len0, cap0, rfl⟩ := okWide_slice Ybad.underlying22 (hval 0 22 v0 rfl rfl)
  have k0 := h0
  have lt0 : ∀ x ∈ p0, x.block < W.heap.size := by obtain ⟨m, hm⟩ := k0; exact DataW.trod_lt m _ _ _ hm
  obtain ⟨z0, w0⟩ := BHeld.lies_in h0
  obtain ⟨a1, rfl, rfl, rfl, w1⟩ := open_int Ybad.underlying5 (hval 1 5 v1 rfl rfl) h1
  obtain ⟨a2, rfl, rfl, rfl, w2⟩ := open_int Ybad.underlying23 (hval 2 23 v2 rfl rfl) h2
  obtain ⟨a3, rfl, rfl, rfl, w3⟩ := open_int Ybad.underlying23 (hval 3 23 v3 rfl rfl) h3
  obtain ⟨neg, rfl, rfl, rfl⟩ := open_bool Ybad.underlying4 (hval 4 4 v4 rfl rfl) h4
  have b1 := bounds_u8 w1
  have b2 := bounds_u16 w2
  have b3 := bounds_u16 w3
  obtain ⟨ea, ea1, hsents⟩ := sents_of hL
  clear hA0 hval0
  refine (stream_any a0 len0 cap0 z0 a1 a2 a3 neg ea ea1 W b1.1 b1.2 b2.1 b2.2 b3.1 b3.2 w0 hsents).mono fun e W' ⟨he, bel⟩ => ?_
  subst he
  exact ⟨_, rfl, _, _, _, [], _, [], hW', trodAll_mk1 (shut_bool Ybad.underlying4 _), (trodAll_cons_mk (Below.trod BHeld.laidOut (by kernel_rfl) (of_decide_eq_true (by kernel_rfl)) k0 bel lt0) (trodAll_cons_mk (shut_int Ybad.underlying5 w1) (trodAll_cons_mk (shut_int Ybad.underlying23 w2) (trodAll_cons_mk (shut_int Ybad.underlying23 w3) (trodAll_cons_mk (shut_bool Ybad.underlying4 neg) trodAll_mk0))))), rfl, bel.frame _, fun h => by cases h⟩

theorem over : Rows.LawS1815BStreamSaid :=
  OpenClaim.holds_of_wide 3 Ybad.f3 rfl rfl rfl rfl rfl rfl rfl ⟨rfl, rfl, rfl, rfl, rfl⟩ rfl rfl rfl rfl rfl (by kernel_rfl) Ybad.func3 (by kernel_rfl)
    (of_decide_eq_true (by kernel_rfl)) (by unfold Func.isWrapper; first | (rw [if_pos (by decide +kernel)]; kernel_rfl) | (rw [if_neg (by decide +kernel)]; exact ⟨rfl, rfl⟩))
    (fun os started H enc _ => lifted os started H enc)

theorem card : Rows.LawS1815BStreamCardSaid :=
  Claim7.holds_tied_plain_at .later [] [.sentinel, .sentinel, .sentinel, .sentinel, .sentinel] true Rows.lawS1815BStreamCard.stood.harness true
    over (fun _ h => by cases h) (by kernel_rfl) (fun _ h => by cases h) lawS1815BStream_row_tie rfl ⟨rfl, rfl⟩ (by kernel_rfl) rfl
    (fun f fn hf hfn => by
      obtain rfl : f = 3 := Option.some.inj ((show Ybad.prog.funcNamed Ybad.f3.name = some 3 by kernel_rfl).symm.trans hf) |>.symm
      obtain rfl : fn = Ybad.f3 := (Option.some.inj (Ybad.func3.symm.trans hfn)).symm
      exact ⟨by kernel_rfl, fun j t ht => by
        rw [Ybad.params3] at ht
        have hm : t ∈ [22, 5, 23, 23, 4] := by simpa using Array.mem_of_getElem? ht
        have hall : ([22, 5, 23, 23, 4].all fun u => !Ybad.prog.wantsStandIn u) = true := by kernel_rfl
        exact (show Ybad.prog.wantsStandIn t = false by simpa using List.all_eq_true.1 hall t hm)⟩)
    (by kernel_rfl)
#print axioms card
end BStream
theorem LawS1815BStreamCard_proved : Rows.LawS1815BStreamCardSaid := BStream.card
end Go.Proofs.YbulkakoiDoor
