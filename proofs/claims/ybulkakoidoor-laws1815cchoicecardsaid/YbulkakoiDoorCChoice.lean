import Derived.Test.YbulkakoiDoorCPlain
import Derived.Test.YbulkakoiDoorChoice5
import Derived.Deep.Slices
import Derived.Deep.Grids
namespace Go.Proofs.YbulkakoiDoor
open Go.ChangeShapes Go.WideShapes Go.ChangeAt Go.WideMaps Go.WideElems Go.RowKit

namespace CChoice
theorem cells67 : Ybad.prog.cellsOf 67 = 2 := by kernel_rfl
theorem cells5 : Ybad.prog.cellsOf 5 = 1 := by kernel_rfl
theorem cells4 : Ybad.prog.cellsOf 4 = 1 := by kernel_rfl

set_option maxHeartbeats 1000000 in
set_option maxRecDepth 100000 in
/-- too long a slice: true at once. -/
theorem choice_early (ko xo : Option Addr) (nk nc kcap ccap : Nat) (pick cl num : Int) (w : World) (h : ¬ (nk ≤ 1024 ∧ nc ≤ 1024)) :
    Calls Ybad.prog 6 #[.slice ko nk kcap, .slice xo nc ccap, .int .u8 pick, .int .u8 cl, .int .u32 num] w fun e w' => e = .returned (.bool true) ∧ Below w.heap.size w w' := by
  by_cases h1 : nk ≤ 1024
  · have h2 : ¬ nc ≤ 1024 := fun h2 => h ⟨h1, h2⟩
    have g1 : decide (1024 < (nk : Int)) = false := by simp; omega
    have g2 : decide (1024 < (nc : Int)) = true := by simp; omega
    clear h
    go_enter Ybad.func6, Ybad.ntmps6
    go_wp2
    go_ret
    exact ⟨rfl, Below.refl _ _⟩
  · have g1 : decide (1024 < (nk : Int)) = true := by simp; omega
    clear h
    go_enter Ybad.func6, Ybad.ntmps6
    go_wp2
    go_ret
    exact ⟨rfl, Below.refl _ _⟩

/-- what the slice of keys that came in is to the walk. -/
theorem keys_in {H : Type} {enc : TypeId × Value → H} {W : World} {a0 : Option Addr} {len cap : Nat} {d : DataW H} {p : List MemPlace} (h : DataW.Trod enc Ybad.prog W 0 (fun _ => true) true 64 (.slice a0 len cap) d p) :
    ∃ kc kn : Nat → Int, KeysAt W a0 len kc kn := by
  obtain ⟨fuel, hf⟩ := h
  rcases Go.Deep.open_slice Ybad.underlying64 hf with ⟨hcs, _⟩ | ⟨x, l, c, m, n, D, Pl, hcs, _, hl, _, hmm, _, hel⟩
  · simp [Value.cells] at hcs
    obtain ⟨rfl, rfl, rfl⟩ := hcs
    exact ⟨fun _ => 0, fun _ => 0, fun h => by omega⟩
  · simp [Value.cells] at hcs
    obtain ⟨rfl, rfl, rfl⟩ := hcs
    rw [cells67] at hel
    have hm : m = cap := by simpa using hmm
    subst hm
    have hst : ∀ i, ∃ a b : Int, i < len → (0 ≤ a ∧ a ≤ 255 ∧ 0 ≤ b ∧ b ≤ 4294967295 ∧ W.cell? ((x.add (i * 2)).add 0) = some (.int .u8 a) ∧ W.cell? ((x.add (i * 2)).add 1) = some (.int .u32 b)) := fun i => by
      by_cases hi : i < len
      · obtain ⟨cs', h1, h2⟩ := hel i (by omega)
        obtain ⟨_, hlen, hcell⟩ := World.cells?_some h1
        obtain ⟨y0, y1, k, _, _, e0, e1⟩ := trod_struct2 Ybad.underlying67 h2
        rw [cells5] at e0
        rw [cells39] at e1
        obtain ⟨a, ha, _, wa⟩ := DataW.trod_int Ybad.underlying5 e0
        obtain ⟨b, hb, _, wb⟩ := DataW.trod_int Ybad.underlying39 e1
        refine ⟨a, b, fun _ => ?_⟩
        have b1 := bounds_u8 wa
        have b2 := bounds_u32 wb
        have c0 := hcell 0 (by omega)
        have c1 := hcell 1 (by omega)
        have d0 : cs'[0]? = some (.int .u8 a) := by
          have h0 := congrArg (fun l : List Value => l[0]?) ha
          simpa [List.getElem?_take, List.getElem?_drop] using h0
        have d1 : cs'[1]? = some (.int .u32 b) := by
          have h0 := congrArg (fun l : List Value => l[0]?) hb
          simpa [List.getElem?_take, List.getElem?_drop] using h0
        exact ⟨b1.1, b1.2, b2.1, b2.2, c0.trans d0, c1.trans d1⟩
      · exact ⟨0, 0, fun h => absurd h hi⟩
    obtain ⟨kc, hkc⟩ := Classical.axiomOfChoice hst
    obtain ⟨kn, hkn⟩ := Classical.axiomOfChoice hkc
    refine ⟨kc, kn, fun hp => ?_⟩
    obtain ⟨b, off, spot⟩ := x
    have h0 := (hkn 0 hp).2.2.2.2.1
    have hspot : spot = none := by simpa [Addr.add] using World.cell?_spot h0
    subst hspot
    refine ⟨b, off, rfl, World.block_lt_of_cell? W _ h0, fun i hi => ?_⟩
    obtain ⟨a1, a2, a3, a4, a5, a6⟩ := hkn i hi
    refine ⟨a1, a2, a3, a4, ?_, ?_⟩
    · rw [add_plain, add_plain] at a5; exact a5
    · rw [add_plain, add_plain] at a6; exact a6

/-- what the slice of bools that came in is to the walk. -/
theorem bools_in {H : Type} {enc : TypeId × Value → H} {W : World} {a0 : Option Addr} {len cap : Nat} {d : DataW H} {p : List MemPlace} (h : DataW.Trod enc Ybad.prog W 0 (fun _ => true) true 65 (.slice a0 len cap) d p) :
    ∃ cb : Nat → Bool, BoolsAt W a0 len cb := by
  obtain ⟨fuel, hf⟩ := h
  rcases Go.Deep.open_bools Ybad.underlying65 Ybad.underlying4 cells4 hf with ⟨hcs, _⟩ | ⟨x, l, c, B, hcs, _, hl, _, _, hel⟩
  · simp [Value.cells] at hcs
    obtain ⟨rfl, rfl, rfl⟩ := hcs
    exact ⟨fun _ => false, fun h => by omega⟩
  · simp [Value.cells] at hcs
    obtain ⟨rfl, rfl, rfl⟩ := hcs
    refine ⟨B, fun hp => ?_⟩
    obtain ⟨b, off, spot⟩ := x
    have h0 := hel 0 (by omega)
    have hspot : spot = none := by simpa [Addr.add] using World.cell?_spot h0
    subst hspot
    exact ⟨b, off, rfl, World.block_lt_of_cell? W _ h0, fun i hi => by have := hel i (by omega); rw [add_plain] at this; exact this⟩

set_option maxRecDepth 100000 in
theorem lifted (os : Os) (started : os.Started) (H : Type) (enc : TypeId × Value → H) :
    ReturnsInHanded {} Ybad.checked os 6 .any (fun w args => (Rows.lawS1815CChoiceSpec.pre enc Ybad.prog Ybad.f6 [] false w args ∧ laidMetH Ybad.prog Rows.lawS1815CChoiceRow.laid w) ∧ sizedMet enc Ybad.prog Ybad.f6 (OpenSpec.ofChange Rows.lawS1815CChoiceSpec) false w args)
      (Rows.lawS1815CChoiceSpec.post enc Ybad.prog Ybad.f6 false true false false) := by
  refine returnsInHanded_of_change_and (C := Ybad.checked) (X := fun w _ => laidMetH Ybad.prog Rows.lawS1815CChoiceRow.laid w) (fun _ _ _ hh h => h.of_heap hh) own started (by kernel_rfl) Ybad.func6
    (ChangeSpec.witness_shaped (enc := enc) (C := Ybad.checked) (os := os) (X := fun w _ => laidMetH Ybad.prog Rows.lawS1815CChoiceRow.laid w) false (World.doorLaid Ybad.prog 124 os) #[.slice none 0 0, .slice none 0 0, .int .u8 0, .int .u8 0, .int .u32 0] 8 rfl (World.shaped_of_RefB (by kernel_rfl) (by kernel_rfl)) (by kernel_rfl) (by kernel_rfl) (by kernel_rfl) (door_met_C os _)) ?_
  intro W base args ds gs before hval0 hW _ _ hL _
  have hval : ∀ (j : Nat) t v, Ybad.f6.params[j]? = some t → args[j]? = some v → Value.okWide Ybad.prog W .any base t v := hval0
  have hW' := hW
  have hlt : ∀ x ∈ before, x.block < W.heap.size := fun x hx => hW'.lt x hx
  obtain ⟨p, q, hA0, hV0, rfl, hfz, hnd⟩ := hW
  have hA : DataW.TrodAll enc Ybad.prog W 0 (fun _ => true) true Ybad.f6.params.toList args.toList ds p := hA0
  have hV : DataW.TrodVars enc Ybad.prog W (fun _ => true) [kindsName] gs q := hV0
  rw [Ybad.params6] at hA hval
  obtain ⟨v0, vs0, d0, ds0, p0, q0, hargs, rfl, rfl, h0, r0⟩ := trodAll_cons hA
  obtain ⟨v1, vs1, d1, ds1, p1, q1, rfl, rfl, rfl, h1, r1⟩ := trodAll_cons r0
  obtain ⟨v2, vs2, d2, ds2, p2, q2, rfl, rfl, rfl, h2, r2⟩ := trodAll_cons r1
  obtain ⟨v3, vs3, d3, ds3, p3, q3, rfl, rfl, rfl, h3, r3⟩ := trodAll_cons r2
  obtain ⟨v4, vs4, d4, ds4, p4, q4, rfl, rfl, rfl, h4, r4⟩ := trodAll_cons r3
  obtain ⟨rfl, rfl, rfl⟩ := trodAll_nil r4
  obtain rfl : args = #[v0, v1, v2, v3, v4] := by cases args; simp_all
  obtain ⟨a0, len0, cap0, rfl⟩ := okWide_slice Ybad.underlying64 (hval 0 64 v0 rfl rfl)
  obtain ⟨a1, len1, cap1, rfl⟩ := okWide_slice Ybad.underlying65 (hval 1 65 v1 rfl rfl)
  have lt0 : ∀ x ∈ p0, x.block < W.heap.size := by obtain ⟨m, hm⟩ := h0; exact DataW.trod_lt m _ _ _ hm
  have lt1 : ∀ x ∈ p1, x.block < W.heap.size := by obtain ⟨m, hm⟩ := h1; exact DataW.trod_lt m _ _ _ hm
  obtain ⟨kc, kn, hK⟩ := keys_in h0
  obtain ⟨cb, hX⟩ := bools_in h1
  obtain ⟨a2, rfl, rfl, rfl, w2⟩ := open_int Ybad.underlying5 (hval 2 5 v2 rfl rfl) h2
  obtain ⟨a3, rfl, rfl, rfl, w3⟩ := open_int Ybad.underlying5 (hval 3 5 v3 rfl rfl) h3
  obtain ⟨a4, rfl, rfl, rfl, w4⟩ := open_int Ybad.underlying39 (hval 4 39 v4 rfl rfl) h4
  obtain ⟨h3', _⟩ := kinds_cells hL
  have b2 := bounds_u8 w2
  have b3 := bounds_u8 w3
  have b4 := bounds_u32 w4
  have hltq : ∀ x ∈ q, x.block < W.heap.size := fun x hx => hlt x (List.mem_append_right _ hx)
  obtain ⟨g, t, cs, fuel, dg, pg, hgs, _⟩ := trodVars_one hV
  subst hgs
  clear hA0 hval0 hV0
  have hC : Calls Ybad.prog 6 #[.slice a0 len0 cap0, .slice a1 len1 cap1, .int .u8 a2, .int .u8 a3, .int .u32 a4] W fun e w' => e = .returned (.bool true) ∧ Below W.heap.size W w' := by
    by_cases hl : len0 ≤ 1024 ∧ len1 ≤ 1024
    · exact choice_any a0 a1 len0 len1 cap0 cap1 kc kn cb a2 a3 a4 W b2.1 b2.2 b3.1 b3.2 b4.1 b4.2 hK hX hl.1 hl.2
    · exact choice_early a0 a1 len0 len1 cap0 cap1 a2 a3 a4 W hl
  refine hC.mono fun e W' ⟨he, bel⟩ => ?_
  subst he
  exact ⟨_, rfl, _, _, _, [], _, q, hW', trodAll_mk1 (shut_bool Ybad.underlying4 _), (trodAll_cons_mk (Below.trod laidOut (by kernel_rfl) (of_decide_eq_true (by kernel_rfl)) h0 bel lt0) (trodAll_cons_mk (Below.trod laidOut (by kernel_rfl) (of_decide_eq_true (by kernel_rfl)) h1 bel lt1) (trodAll_cons_mk (shut_int Ybad.underlying5 w2) (trodAll_cons_mk (shut_int Ybad.underlying5 w3) (trodAll_cons_mk (shut_int Ybad.underlying39 w4) trodAll_mk0))))), kinds_below h3' hV bel hltq, bel.frame _, fun h => by cases h⟩

theorem over : Rows.LawS1815CChoiceSaid :=
  OpenClaim.holds_of_wide 6 Ybad.f6 rfl rfl rfl rfl rfl rfl rfl ⟨rfl, rfl, rfl, rfl, rfl⟩ rfl rfl rfl rfl rfl (by kernel_rfl) Ybad.func6 (by kernel_rfl)
    (of_decide_eq_true (by kernel_rfl)) (by unfold Func.isWrapper; first | (rw [if_pos (by decide +kernel)]; kernel_rfl) | (rw [if_neg (by decide +kernel)]; exact ⟨rfl, rfl⟩))
    (fun os started H enc _ => lifted os started H enc)

theorem card : Rows.LawS1815CChoiceCardSaid :=
  Claim7.holds_tied_plain_at .later [] [.wider] true Rows.lawS1815CChoiceCard.stood.harness true
    over (fun _ h => by cases h) (by kernel_rfl) (fun _ h => by cases h) lawS1815CChoice_row_tie rfl ⟨rfl, rfl⟩ (by kernel_rfl) rfl
    (fun f fn hf hfn => by
      obtain rfl : f = 6 := Option.some.inj ((show Ybad.prog.funcNamed Ybad.f6.name = some 6 by kernel_rfl).symm.trans hf) |>.symm
      obtain rfl : fn = Ybad.f6 := (Option.some.inj (Ybad.func6.symm.trans hfn)).symm
      exact ⟨by kernel_rfl, fun j t ht => by
        rw [Ybad.params6] at ht
        have hm : t ∈ [64, 65, 5, 5, 39] := by simpa using Array.mem_of_getElem? ht
        have hall : ([64, 65, 5, 5, 39].all fun u => !Ybad.prog.wantsStandIn u) = true := by kernel_rfl
        exact (show Ybad.prog.wantsStandIn t = false by simpa using List.all_eq_true.1 hall t hm)⟩)
    (by kernel_rfl)
#print axioms card
end CChoice
theorem LawS1815CChoiceCard_proved : Rows.LawS1815CChoiceCardSaid := CChoice.card
end Go.Proofs.YbulkakoiDoor
