import Derived.Test.YbulkakoiDoorKinds
import Derived.Test.YbulkakoiDoorPlain2
import Derived.Test.YbulkakoiDoorCards
import Derived.Test.YbulkakoiDoorTie
import Derived.ShutString
import Derived.ChangeOld
import Derived.Below
import Derived.SevenTiedAt
namespace Go.Proofs.YbulkakoiDoor
open Go.ChangeShapes Go.WideShapes Go.ChangeAt Go.WideMaps Go.WideElems Go.RowKit

/-- the table, read again behind a call that turned nothing below. -/
theorem kinds_below {H : Type} {enc : TypeId × Value → H} {W W' : World} {gs : List (DataW H)} {q : List MemPlace} (h3 : 3 < W.heap.size) (hV : DataW.TrodVars enc Ybad.prog W (fun _ => true) [kindsName] gs q)
    (bel : Below W.heap.size W W') (lt : ∀ x ∈ q, x.block < W.heap.size) : DataW.TrodVars enc Ybad.prog W' (fun b => decide (b < W.heap.size)) [kindsName] gs q := by
  obtain ⟨g, t, cs, fuel, d, p, rfl, hg, ht, hv, hd, rfl⟩ := trodVars_one hV
  obtain rfl := Option.some.inj (gKinds.symm.trans hg)
  obtain rfl := Option.some.inj (tKinds.symm.trans ht)
  have hk : DataW.Trod enc Ybad.prog W 0 (fun _ => true) true 90 (.agg cs) d p := ⟨fuel, hd⟩
  obtain ⟨f2, hd2⟩ := Below.trod laidOut (by kernel_rfl) (of_decide_eq_true (by kernel_rfl)) hk bel (fun x hx => lt x (List.mem_append_right _ hx))
  exact trodVars_mk1 hg ht (var?_below bel hg h3 hv) hd2

/-- The door's own heap meets the condition. -/
theorem door_met_C (os : Os) (args : Array Value) : laidMetH Ybad.prog Rows.lawS1815CPlainRow.laid ((World.doorLaid Ybad.prog 124 os).forCall (fun _ _ => 0) ⟨#[], args, []⟩).memory :=
  laidMetH_of_parts3 (fuel := 8) (laidMet_of_run' 8 (by kernel_rfl) (by kernel_rfl)) (by kernel_rfl) (by kernel_rfl)

namespace CPlain
set_option maxRecDepth 100000 in
theorem lifted (os : Os) (started : os.Started) (H : Type) (enc : TypeId × Value → H) :
    ReturnsInHanded {} Ybad.checked os 5 .any (fun w args => (Rows.lawS1815CPlainSpec.pre enc Ybad.prog Ybad.f5 [] false w args ∧ laidMetH Ybad.prog Rows.lawS1815CPlainRow.laid w) ∧ sizedMet enc Ybad.prog Ybad.f5 (OpenSpec.ofChange Rows.lawS1815CPlainSpec) false w args)
      (Rows.lawS1815CPlainSpec.post enc Ybad.prog Ybad.f5 false true false false) := by
  refine returnsInHanded_of_change_and (C := Ybad.checked) (X := fun w _ => laidMetH Ybad.prog Rows.lawS1815CPlainRow.laid w) (fun _ _ _ hh h => h.of_heap hh) own started (by kernel_rfl) Ybad.func5
    (ChangeSpec.witness_shaped (enc := enc) (C := Ybad.checked) (os := os) (X := fun w _ => laidMetH Ybad.prog Rows.lawS1815CPlainRow.laid w) false (World.doorLaid Ybad.prog 124 os) #[.int .u8 0, .int .u8 0, .int .u32 0] 8 rfl (World.shaped_of_RefB (by kernel_rfl) (by kernel_rfl)) (by kernel_rfl) (by kernel_rfl) (by kernel_rfl) (door_met_C os _)) ?_
  intro W base args ds gs before hval0 hW _ _ hL _
  have hval : ∀ (j : Nat) t v, Ybad.f5.params[j]? = some t → args[j]? = some v → Value.okWide Ybad.prog W .any base t v := hval0
  have hW' := hW
  have hlt : ∀ x ∈ before, x.block < W.heap.size := fun x hx => hW'.lt x hx
  obtain ⟨p, q, hA0, hV0, rfl, hfz, hnd⟩ := hW
  have hA : DataW.TrodAll enc Ybad.prog W 0 (fun _ => true) true Ybad.f5.params.toList args.toList ds p := hA0
  have hV : DataW.TrodVars enc Ybad.prog W (fun _ => true) [kindsName] gs q := hV0
  rw [Ybad.params5] at hA hval
  obtain ⟨v0, vs0, d0, ds0, p0, q0, hargs, rfl, rfl, h0, r0⟩ := trodAll_cons hA
  obtain ⟨v1, vs1, d1, ds1, p1, q1, rfl, rfl, rfl, h1, r1⟩ := trodAll_cons r0
  obtain ⟨v2, vs2, d2, ds2, p2, q2, rfl, rfl, rfl, h2, r2⟩ := trodAll_cons r1
  obtain ⟨rfl, rfl, rfl⟩ := trodAll_nil r2
  obtain rfl : args = #[v0, v1, v2] := by cases args; simp_all
  obtain ⟨a0, rfl, rfl, rfl, w0⟩ := open_int Ybad.underlying5 (hval 0 5 v0 rfl rfl) h0
  obtain ⟨a1, rfl, rfl, rfl, w1⟩ := open_int Ybad.underlying5 (hval 1 5 v1 rfl rfl) h1
  obtain ⟨a2, rfl, rfl, rfl, w2⟩ := open_int Ybad.underlying39 (hval 2 39 v2 rfl rfl) h2
  obtain ⟨h3, hT⟩ := kinds_cells hL
  have b0 := bounds_u8 w0
  have b1 := bounds_u8 w1
  have b2 := bounds_u32 w2
  have hltq : ∀ x ∈ q, x.block < W.heap.size := fun x hx => hlt x (List.mem_append_right _ hx)
  obtain ⟨g, t, cs, fuel, dg, pg, hgs, _⟩ := trodVars_one hV
  subst hgs
  clear hA0 hval0 hV0
  refine (plain_any a0 a1 a2 W b0.1 b0.2 b1.1 b1.2 b2.1 b2.2 h3 hT).mono fun e W' ⟨he, bel⟩ => ?_
  subst he
  exact ⟨_, rfl, _, _, _, [], _, q, hW', trodAll_mk1 (shut_bool Ybad.underlying4 _), (trodAll_cons_mk (shut_int Ybad.underlying5 w0) (trodAll_cons_mk (shut_int Ybad.underlying5 w1) (trodAll_cons_mk (shut_int Ybad.underlying39 w2) trodAll_mk0))), kinds_below h3 hV bel hltq, bel.frame _, fun h => by cases h⟩

theorem over : Rows.LawS1815CPlainSaid :=
  OpenClaim.holds_of_wide 5 Ybad.f5 rfl rfl rfl rfl rfl rfl rfl ⟨rfl, rfl, rfl, rfl, rfl⟩ rfl rfl rfl rfl rfl (by kernel_rfl) Ybad.func5 (by kernel_rfl)
    (of_decide_eq_true (by kernel_rfl)) (by unfold Func.isWrapper; first | (rw [if_pos (by decide +kernel)]; kernel_rfl) | (rw [if_neg (by decide +kernel)]; exact ⟨rfl, rfl⟩))
    (fun os started H enc _ => lifted os started H enc)

theorem card : Rows.LawS1815CPlainCardSaid :=
  Claim7.holds_tied_plain_at .later [] [.wider] true Rows.lawS1815CPlainCard.stood.harness true
    over (fun _ h => by cases h) (by kernel_rfl) (fun _ h => by cases h) lawS1815CPlain_row_tie rfl ⟨rfl, rfl⟩ (by kernel_rfl) rfl
    (fun f fn hf hfn => by
      obtain rfl : f = 5 := Option.some.inj ((show Ybad.prog.funcNamed Ybad.f5.name = some 5 by kernel_rfl).symm.trans hf) |>.symm
      obtain rfl : fn = Ybad.f5 := (Option.some.inj (Ybad.func5.symm.trans hfn)).symm
      exact ⟨by kernel_rfl, fun j t ht => by
        rw [Ybad.params5] at ht
        have hm : t ∈ [5, 5, 39] := by simpa using Array.mem_of_getElem? ht
        have hall : ([5, 5, 39].all fun u => !Ybad.prog.wantsStandIn u) = true := by kernel_rfl
        exact (show Ybad.prog.wantsStandIn t = false by simpa using List.all_eq_true.1 hall t hm)⟩)
    (by kernel_rfl)
#print axioms card
end CPlain
theorem LawS1815CPlainCard_proved : Rows.LawS1815CPlainCardSaid := CPlain.card
end Go.Proofs.YbulkakoiDoor
