import Derived.Test.YbulkakmsRows
import Derived.Test.YbulkakmsCLaw
import Derived.ProofKit
import Derived.OpenShut
import Derived.ShutString
import Derived.ChangeOld
import Derived.Below
import Derived.Deep.Slices
import Derived.Deep.Grids
import Derived.Deep.Strs
namespace Go.Proofs.Ybulkakms.lawS1812CJoin
open Go.ChangeShapes Go.WideShapes Go.ChangeAt Go.WideMaps Go.WideElems Go.RowKit

theorem own : ownKnob Yba.prog.godebug = none := by kernel_rfl
theorem laidOut : laidOutB Yba.prog = true := by kernel_rfl
theorem cells55 : Yba.prog.cellsOf 55 = 8 := by kernel_rfl
theorem cells89 : Yba.prog.cellsOf 89 = 3 := by kernel_rfl
theorem cells53 : Yba.prog.cellsOf 53 = 1 := by kernel_rfl
theorem cells5 : Yba.prog.cellsOf 5 = 1 := by kernel_rfl
theorem cells3 : Yba.prog.cellsOf 3 = 1 := by kernel_rfl
theorem cells2 : Yba.prog.cellsOf 2 = 1 := by kernel_rfl
theorem cells4 : Yba.prog.cellsOf 4 = 1 := by kernel_rfl

theorem at_field {cs : List Value} {o : Nat} {v : Value} (h : (cs.drop o).take 1 = [v]) : cs[o]? = some v := by
  have h0 := congrArg (fun l : List Value => l[0]?) h
  simpa [List.getElem?_take, List.getElem?_drop] using h0

/-- what a slice of versions that came in is to the walk. -/
theorem vers_in {H : Type} {enc : TypeId × Value → H} {W : World} {fuel : Nat} {cs : List Value} {y : DataW H × List MemPlace} (hf : DataW.trod enc Yba.prog W 0 (fun _ => true) true fuel 53 cs = some y) :
    ∃ (va : Option Addr) (n c : Nat) (ve : Nat → Vc), cs = [.slice va n c] ∧ VersAt W va n ve := by
  rcases Go.Deep.open_slice Yba.underlying53 hf with ⟨hcs, _⟩ | ⟨x, len, cap, m, n, D, Pl, hcs, _, hl, _, hmm, _, hel⟩
  · exact ⟨none, 0, 0, fun _ => ⟨0, 0, 0⟩, hcs, fun h => by omega⟩
  · rw [cells89] at hel
    have hm : m = cap := by simpa using hmm
    subst hm
    have hst : ∀ i, ∃ s : Vc, i < len → (s.small ∧ ∀ k, k < 3 → W.cell? ((x.add (i * 3)).add k) = s.u[k]?) := fun i => by
      by_cases hi : i < len
      · obtain ⟨cs', h1, h2⟩ := hel i (by omega)
        obtain ⟨_, hlen, hcell⟩ := World.cells?_some h1
        obtain ⟨y0, y1, y2, n', _, _, f0, f1, f2⟩ := Go.Deep.trod_struct3 Yba.underlying89 h2
        rw [cells5] at f0 f1
        rw [cells3] at f2
        obtain ⟨a0, g0, _, w0⟩ := DataW.trod_int Yba.underlying5 f0
        obtain ⟨a1, g1, _, w1⟩ := DataW.trod_int Yba.underlying5 f1
        obtain ⟨a2, g2, _, w2⟩ := DataW.trod_int Yba.underlying3 f2
        have b0 := bounds_u8 w0
        have b1 := bounds_u8 w1
        have b2 := bounds_i64 w2
        refine ⟨⟨a0, a1, a2⟩, fun _ => ⟨⟨b0.1, b0.2, b1.1, b1.2, b2.1, b2.2⟩, fun k hk => ?_⟩⟩
        have c := hcell k (by omega)
        refine c.trans ?_
        have hk3 : k = 0 ∨ k = 1 ∨ k = 2 := by omega
        rcases hk3 with rfl | rfl | rfl
        · exact at_field g0
        · exact at_field g1
        · exact at_field g2
      · exact ⟨⟨0, 0, 0⟩, fun h => absurd h hi⟩
    obtain ⟨sp, hsp⟩ := Classical.axiomOfChoice hst
    refine ⟨some x, len, m, sp, hcs, fun hp => ?_⟩
    obtain ⟨b, off, spot⟩ := x
    have h0 := (hsp 0 hp).2 0 (by omega)
    have h0' : W.cell? ((Addr.add ⟨b, off, spot⟩ (0 * 3)).add 0) = some (.int .u8 (sp 0).a) := h0
    have hspot : spot = none := by simpa [Addr.add] using World.cell?_spot h0'
    subst hspot
    refine ⟨b, off, rfl, World.block_lt_of_cell? W _ h0', fun i hi => ⟨(hsp i hi).1, fun k hk => ?_⟩⟩
    have := (hsp i hi).2 k hk
    rw [add_plain, add_plain] at this
    exact this

theorem list8 {α : Type} {l : List α} (h : l.length = 8) : ∃ a b c d e f g i, l = [a, b, c, d, e, f, g, i] := by
  match l, h with
  | [a, b, c, d, e, f, g, i], _ => exact ⟨a, b, c, d, e, f, g, i, rfl⟩

set_option maxRecDepth 100000 in
/-- what a side that came in is to the walk. -/
theorem side_in {H : Type} {enc : TypeId × Value → H} {W : World} {r : Reach} {b0 : Nat} {v : Value} {d : DataW H} {p : List MemPlace} (hv : Value.okWide Yba.prog W r b0 55 v) (h : DataW.Trod enc Yba.prog W 0 (fun _ => true) true 55 v d p) :
    ∃ (r f l x : Int) (ov : Bool) (va : Option Addr) (n c : Nat) (sk dm : Int) (ve : Nat → Vc), v = .agg (side r f l x ov (.slice va n c) sk dm) ∧ VersAt W va n ve := by
  obtain ⟨cs, rfl, hsz⟩ := okWide_struct Yba.underlying55 hv
  obtain ⟨ls⟩ := cs
  rw [cells55] at hsz
  obtain ⟨c0, c1, c2, c3, c4, c5, c6, c7, rfl⟩ := list8 (l := ls) (by simpa using hsz)
  obtain ⟨fuel, hf⟩ := h
  obtain ⟨xs, n, _, _, _, hxl, hfs⟩ := DataW.trod_struct Yba.underlying55 hf
  obtain ⟨y0, y1, y2, y3, y4, y5, y6, y7, rfl⟩ := list8 (l := xs) (by simpa using hxl)
  have f0 := hfs 0 _ rfl
  have f1 := hfs 1 _ rfl
  have f2 := hfs 2 _ rfl
  have f3 := hfs 3 _ rfl
  have f4 := hfs 4 _ rfl
  have f5 := hfs 5 _ rfl
  have f6 := hfs 6 _ rfl
  have f7 := hfs 7 _ rfl
  simp [Value.cells, cells3, cells2, cells4, cells53] at f0 f1 f2 f3 f4 f5 f6 f7
  obtain ⟨a0, g0, _, _⟩ := DataW.trod_int Yba.underlying3 f0
  obtain ⟨a1, g1, _, _⟩ := DataW.trod_int Yba.underlying2 f1
  obtain ⟨a2, g2, _, _⟩ := DataW.trod_int Yba.underlying2 f2
  obtain ⟨a3, g3, _, _⟩ := DataW.trod_int Yba.underlying2 f3
  obtain ⟨a4, g4, _⟩ := DataW.trod_bool Yba.underlying4 f4
  obtain ⟨va, m, c, ve, g5, hve⟩ := vers_in f5
  obtain ⟨a6, g6, _, _⟩ := DataW.trod_int Yba.underlying3 f6
  obtain ⟨a7, g7, _, _⟩ := DataW.trod_int Yba.underlying3 f7
  simp only [List.cons.injEq, and_true] at g0 g1 g2 g3 g4 g5 g6 g7
  subst g0 g1 g2 g3 g4 g5 g6 g7
  exact ⟨a0, a1, a2, a3, a4, va, m, c, a6, a7, ve, rfl, hve⟩

set_option maxRecDepth 100000 in
theorem lifted (os : Os) (started : os.Started) (H : Type) (enc : TypeId × Value → H) :
    ReturnsInHanded {} Yba.checked os 4 .any (Rows.lawS1812CJoinSpec.pre6 enc Yba.prog Yba.f4 Rows.lawS1812CJoinRow.domain false) (Rows.lawS1812CJoinSpec.post enc Yba.prog Yba.f4 false true false false) := by
  refine returnsInHanded_of_change (C := Yba.checked) own started (by kernel_rfl) Yba.func4
    (ChangeSpec.witness6 (enc := enc) (C := Yba.checked) false ⟨#[], #[.agg (side 0 0 0 0 false (.slice none 0 0) 0 0), .agg (side 0 0 0 0 false (.slice none 0 0) 0 0), .int .i64 0], []⟩ 8 (by kernel_rfl) (by kernel_rfl) (by kernel_rfl) (by kernel_rfl)) ?_
  intro W base args ds gs before hval0 hW hcnd _
  have hval : ∀ (j : Nat) t v, Yba.f4.params[j]? = some t → args[j]? = some v → Value.okWide Yba.prog W .any base t v := hval0
  have hW' := hW
  obtain ⟨p, q, hA0, hV, rfl, hfz, hnd⟩ := hW
  have hA : DataW.TrodAll enc Yba.prog W 0 (fun _ => true) true Yba.f4.params.toList args.toList ds p := hA0
  rw [Yba.params4] at hA hval
  obtain ⟨v0, vs0, d0, ds0, p0, q0, hargs, rfl, rfl, h0, r0⟩ := trodAll_cons hA
  obtain ⟨v1, vs1, d1, ds1, p1, q1, rfl, rfl, rfl, h1, r1⟩ := trodAll_cons r0
  obtain ⟨v2, vs2, d2, ds2, p2, q2, rfl, rfl, rfl, h2, r2⟩ := trodAll_cons r1
  obtain ⟨rfl, rfl, rfl⟩ := trodAll_nil r2
  obtain rfl : args = #[v0, v1, v2] := by cases args; simp_all
  obtain ⟨rfl, rfl⟩ := trodVars_none hV
  have lt0 : ∀ x ∈ p0, x.block < W.heap.size := by obtain ⟨m, hm⟩ := h0; exact DataW.trod_lt m _ _ _ hm
  have lt1 : ∀ x ∈ p1, x.block < W.heap.size := by obtain ⟨m, hm⟩ := h1; exact DataW.trod_lt m _ _ _ hm
  obtain ⟨r, f, l, x, ov, va, na, ca, sk, dm, ea, rfl, w0⟩ := side_in (hval 0 55 v0 rfl rfl) h0
  obtain ⟨r', f', l', x', ov', vb, nb, cb, sk', dm', eb, rfl, w1⟩ := side_in (hval 1 55 v1 rfl rfl) h1
  obtain ⟨a2, rfl, rfl, rfl, w2⟩ := open_int Yba.underlying3 (hval 2 3 v2 rfl rfl) h2
  clear hA0 hval0
  have hC : Calls Yba.prog 4 #[.agg (side r f l x ov (.slice va na ca) sk dm), .agg (side r' f' l' x' ov' (.slice vb nb cb) sk' dm'), .int .i64 a2] W fun e w' => e = .returned (.bool true) ∧ Below W.heap.size W w' := by
    by_cases hl : na ≤ 1024 ∧ nb ≤ 1024
    · exact claw_any r f l x sk dm r' f' l' x' sk' dm' ov ov' va vb na ca nb cb ea eb a2 W hl.1 hl.2 w0 w1
    · exact claw_long r f l x sk dm r' f' l' x' sk' dm' ov ov' va vb na ca nb cb a2 W hl
  refine hC.mono fun e W' ⟨he, bel⟩ => ?_
  subst he
  exact ⟨_, rfl, _, _, _, [], _, [], hW', trodAll_mk1 (shut_bool Yba.underlying4 _), (trodAll_cons_mk (Below.trod laidOut (by kernel_rfl) (of_decide_eq_true (by kernel_rfl)) h0 bel lt0) (trodAll_cons_mk (Below.trod laidOut (by kernel_rfl) (of_decide_eq_true (by kernel_rfl)) h1 bel lt1) (trodAll_cons_mk (shut_int Yba.underlying3 w2) trodAll_mk0))), rfl, bel.frame _, fun h => by cases h⟩

theorem over : Rows.lawS1812CJoinRow.holds Yba.pinned (OpenSpec.ofChange Rows.lawS1812CJoinSpec) :=
  OpenClaim.holds_of_wide 4 Yba.f4 rfl rfl rfl rfl rfl rfl rfl ⟨rfl, rfl, rfl, rfl, rfl⟩ rfl rfl rfl rfl rfl (by kernel_rfl) Yba.func4 (by kernel_rfl)
    (of_decide_eq_true (by kernel_rfl)) (by unfold Func.isWrapper; first | (rw [if_pos (by decide +kernel)]; kernel_rfl) | (rw [if_neg (by decide +kernel)]; exact ⟨rfl, rfl⟩))
    (fun os started H enc _ => lifted os started H enc)

theorem proved : Rows.LawS1812CJoinSaid := over
#print axioms proved
end Go.Proofs.Ybulkakms.lawS1812CJoin
namespace Go.Proofs.Ybulkakms
theorem LawS1812CJoin_proved : Rows.LawS1812CJoinSaid := lawS1812CJoin.proved
end Go.Proofs.Ybulkakms
