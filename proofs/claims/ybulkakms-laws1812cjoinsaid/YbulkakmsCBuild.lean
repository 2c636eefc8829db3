import Derived.Test.YbulkakmsCLast
namespace Go.Proofs.Ybulkakms
open Go.RowKit

/-- what cbuild makes of the first i. -/
def bl (ve : Nat → Vc) : Nat → List Vc
  | 0 => []
  | i + 1 => addV (ve i).a (ve i).b (ve i).n (bl ve i)

theorem bl_len (ve : Nat → Vc) (i : Nat) : (bl ve i).length ≤ i := by
  induction i with
  | zero => exact Nat.le_refl _
  | succ i ih => have := addV_len (ve i).a (ve i).b (ve i).n (bl ve i); rw [bl]; omega

theorem bl_sorted (ve : Nat → Vc) (i : Nat) : Sorted (bl ve i) := by
  induction i with
  | zero => exact List.Pairwise.nil
  | succ i ih => exact addV_sorted ih

theorem addV_pos (a b n : Int) (l : List Vc) : 0 < (addV a b n l).length := by
  cases l with
  | nil => simp [addV]
  | cons x r => rw [addV]; split <;> (try split) <;> simp

/-- one element as it came in. -/
def Vc.u (x : Vc) : Array Value := #[.int .u8 x.a, .int .u8 x.b, .int .i64 x.n]
def Vc.small (x : Vc) : Prop := 0 ≤ x.a ∧ x.a ≤ 255 ∧ 0 ≤ x.b ∧ x.b ≤ 255 ∧ -9223372036854775808 ≤ x.n ∧ x.n ≤ 9223372036854775807

def VersAt (w : World) (va : Option Addr) (n : Nat) (ve : Nat → Vc) : Prop :=
  0 < n → ∃ b off, va = some ⟨b, off, none⟩ ∧ b < w.heap.size ∧ ∀ i, i < n → (ve i).small ∧ ∀ k, k < 3 → w.cell? ⟨b, off + i * 3 + k, none⟩ = (ve i).u[k]?

theorem VersAt.on {w w' : World} {va : Option Addr} {n : Nat} {ve : Nat → Vc} (h : VersAt w va n ve) (hb : Below w.heap.size w w') : VersAt w' va n ve := fun hp => by
  obtain ⟨b, off, e, hlt, hc⟩ := h hp
  have := hb.size
  exact ⟨b, off, e, by omega, fun i hi => ⟨(hc i hi).1, fun k hk => (hb.cell (p := ⟨b, _, none⟩) hlt).trans ((hc i hi).2 k hk)⟩⟩

theorem bl_ok {ve : Nat → Vc} {n : Nat} (h : ∀ i, i < n → (ve i).small) : ∀ i, i ≤ n → ∀ x ∈ bl ve i, x.ok := by
  intro i
  induction i with
  | zero => intro _ x hx; cases hx
  | succ i ih =>
    intro hi
    obtain ⟨h1, h2, h3, h4, h5, h6⟩ := h i (by omega)
    exact addV_ok ⟨h1, by omega⟩ ⟨h3, by omega⟩ ⟨h5, h6⟩ (ih (by omega))

set_option maxHeartbeats 8000000 in
set_option maxRecDepth 100000 in
theorem cbuild_any (r f l x sk dm : Int) (ov : Bool) (va : Option Addr) (vn vc : Nat) (ve : Nat → Vc) (w : World) (hn : vn ≤ 1024) (hv : Hid (VersAt w va vn ve)) :
    Calls Yba.prog 11 #[.agg #[.int .i64 r, .int .i64 f, .int .i64 l, .int .i64 x, .bool ov, .slice va vn vc, .int .i64 sk, .int .i64 dm]] w fun e w' => ∃ S v, e = .returned (.pointer (some ⟨S, 0, none⟩)) ∧ w.heap.size ≤ S ∧ SumAt w' S ⟨r, f, l, x, ov, sk, dm, .pointer none⟩ v (bl ve vn) ∧ Below w.heap.size w w' := by
  go_enter Yba.func11, Yba.ntmps11
  go_wp2
  have HS0 : Hid (SumAt ((w.alloc (.cells #[.int .i64 r, .int .i64 f, .int .i64 l, .int .i64 x, .bool ov, .slice va vn vc, .int .i64 sk, .int .i64 dm] 55)).alloc (.cells #[.int .i64 r, .int .i64 f, .int .i64 l, .int .i64 x, .bool ov, .slice none 0 0, .int .i64 sk, .int .i64 dm, .pointer none] 63)) (w.heap.size + 1) ⟨r, f, l, x, ov, sk, dm, .pointer none⟩ (.slice none 0 0) (bl ve 0)) := by
    refine ⟨?_, World.ownsRow_nil _ _ _ _⟩
    have := heap_alloc_new (w.alloc (.cells #[.int .i64 r, .int .i64 f, .int .i64 l, .int .i64 x, .bool ov, .slice va vn vc, .int .i64 sk, .int .i64 dm] 55)) (.cells #[.int .i64 r, .int .i64 f, .int .i64 l, .int .i64 x, .bool ov, .slice none 0 0, .int .i64 sk, .int .i64 dm, .pointer none] 63)
    simpa [Sm.cells] using this
  have p5 : ((w.alloc (.cells #[.int .i64 r, .int .i64 f, .int .i64 l, .int .i64 x, .bool ov, .slice va vn vc, .int .i64 sk, .int .i64 dm] 55)).alloc (.cells #[.int .i64 r, .int .i64 f, .int .i64 l, .int .i64 x, .bool ov, .slice none 0 0, .int .i64 sk, .int .i64 dm, .pointer none] 63)).cell? ⟨w.heap.size, 5, none⟩ = some (.slice va vn vc) :=
    (World.cell?_of_block (w := w.alloc (.cells #[.int .i64 r, .int .i64 f, .int .i64 l, .int .i64 x, .bool ov, .slice va vn vc, .int .i64 sk, .int .i64 dm] 55)) (a := ⟨w.heap.size, 5, none⟩) (Below.heap_alloc _ _ _ (by simp))).trans (World.cell?_alloc_at _ _ _ _ rfl)
  have HB0 : Hid (Below w.heap.size w ((w.alloc (.cells #[.int .i64 r, .int .i64 f, .int .i64 l, .int .i64 x, .bool ov, .slice va vn vc, .int .i64 sk, .int .i64 dm] 55)).alloc (.cells #[.int .i64 r, .int .i64 f, .int .i64 l, .int .i64 x, .bool ov, .slice none 0 0, .int .i64 sk, .int .i64 dm, .pointer none] 63))) := ((Below.refl _ _).alloc (Nat.le_refl _) _).alloc (by simp) _
  generalize ((w.alloc (.cells #[.int .i64 r, .int .i64 f, .int .i64 l, .int .i64 x, .bool ov, .slice va vn vc, .int .i64 sk, .int .i64 dm] 55)).alloc (.cells #[.int .i64 r, .int .i64 f, .int .i64 l, .int .i64 x, .bool ov, .slice none 0 0, .int .i64 sk, .int .i64 dm, .pointer none] 63)) = W0 at HS0 p5 HB0 ⊢
  obtain ⟨S, hSe⟩ : ∃ S, w.heap.size + 1 = S := ⟨_, rfl⟩
  rw [hSe] at HS0 ⊢
  have HSE : Hid (w.heap.size + 1 = S) := hSe
  obtain ⟨P, hPe⟩ : ∃ P, w.heap.size = P := ⟨_, rfl⟩
  have HPE : Hid (w.heap.size = P) := hPe
  have hPS : P < S := by omega
  rw [hPe] at p5 ⊢
  clear hSe hPe
  obtain ⟨s0, hs0⟩ : ∃ s0 : Sm, s0 = ⟨r, f, l, x, ov, sk, dm, .pointer none⟩ := ⟨_, rfl⟩
  have HSM : Hid (s0 = ⟨r, f, l, x, ov, sk, dm, .pointer none⟩) := hs0
  rw [← hs0] at HS0
  clear hs0
  go_loopw [4, 5] (fun iv _ wr => ∃ i : Nat, i ≤ vn ∧ iv = .int .i64 i ∧ wr.cell? ⟨P, 5, none⟩ = some (.slice va vn vc) ∧ Hid (∃ v, SumAt wr S s0 v (bl ve i)) ∧ Hid (Below w.heap.size w wr)) (fun iv _ _ => vn - (intOf iv).toNat)
  case atStart => exact ⟨0, Nat.zero_le _, rfl, p5, ⟨_, HS0.out⟩, HB0⟩
  case round =>
    clear HS0 HB0 p5
    obtain ⟨i, hin, rfl, p5, HS, HB⟩ := hrel
    obtain ⟨v, hS⟩ := HS.out
    have HS1 : Hid (SumAt wr S s0 v (bl ve i)) := hS
    clear hS HS
    by_cases hlt : i < vn
    · obtain ⟨b, off, rfl, hb, hc⟩ := (hv.out.on HB.out) (by omega)
      obtain ⟨hsm, hci⟩ := hc i hlt
      obtain ⟨xa, xb, xn, hve⟩ : ∃ xa xb xn, ve i = ⟨xa, xb, xn⟩ := ⟨_, _, _, rfl⟩
      rw [hve] at hsm hci
      obtain ⟨o1, o2, o3, o4, o5, o6⟩ := hsm
      simp only at o1 o2 o3 o4 o5 o6
      have k0 : wr.cell? ⟨b, off + i * 3, none⟩ = some (.int .u8 xa) := hci 0 (by omega)
      have k1 : wr.cell? ⟨b, off + i * 3 + 1, none⟩ = some (.int .u8 xb) := hci 1 (by omega)
      have k2 : wr.cell? ⟨b, off + i * 3 + 2, none⟩ = some (.int .i64 xn) := hci 2 (by omega)
      have HVE : Hid (ve i = ⟨xa, xb, xn⟩) := hve
      have hwa : IntKind.u16.wrap xa = xa := IntWalk.u16_in _ ⟨by omega, by omega⟩
      have hwb : IntKind.u16.wrap xb = xb := IntWalk.u16_in _ ⟨by omega, by omega⟩
      clear hc hci hve
      go_upto_region 6 with fail
      have HBa : Hid (Below w.heap.size w (wr.alloc (.cells #[.int .u8 xa, .int .u8 xb, .int .i64 xn] 89))) := HB.out.alloc HB.out.size _
      have HSa : Hid (SumAt (wr.alloc (.cells #[.int .u8 xa, .int .u8 xb, .int .i64 xn] 89)) S s0 v (bl ve i)) := HS1.out.below ((Below.refl _ _).alloc (Nat.le_refl _) _)
      have pa : (wr.alloc (.cells #[.int .u8 xa, .int .u8 xb, .int .i64 xn] 89)).cell? ⟨P, 5, none⟩ = some (.slice (some ⟨b, off, none⟩) vn vc) := (World.cell?_of_block (w := wr) (a := ⟨P, 5, none⟩) (Below.heap_alloc _ _ _ (World.block_lt_of_cell? _ _ p5))).trans p5
      have hN : (wr.alloc (.cells #[.int .u8 xa, .int .u8 xb, .int .i64 xn] 89)).heap[wr.heap.size]? = some (.cells #[.int .u8 xa, .int .u8 xb, .int .i64 xn] 89) := heap_alloc_new wr _
      have n0 : (wr.alloc (.cells #[.int .u8 xa, .int .u8 xb, .int .i64 xn] 89)).cell? ⟨wr.heap.size, 0, none⟩ = some (.int .u8 xa) := (cell_of_row _ _ _ _ _ _ hN).trans rfl
      have n1 : (wr.alloc (.cells #[.int .u8 xa, .int .u8 xb, .int .i64 xn] 89)).cell? ⟨wr.heap.size, 1, none⟩ = some (.int .u8 xb) := (cell_of_row _ _ _ _ _ _ hN).trans rfl
      have n2 : (wr.alloc (.cells #[.int .u8 xa, .int .u8 xb, .int .i64 xn] 89)).cell? ⟨wr.heap.size, 2, none⟩ = some (.int .i64 xn) := (cell_of_row _ _ _ _ _ _ hN).trans rfl
      have hAv : Hid (v.ownBlock ≠ some wr.heap.size) := fun e => by have := own_lt3 HS1.out.own _ e; omega
      generalize wr.alloc (.cells #[.int .u8 xa, .int .u8 xb, .int .i64 xn] 89) = W at HBa HSa pa n0 n1 n2 ⊢
      generalize wr.heap.size = A at n0 n1 n2 hAv ⊢
      have d5 : W.cell? ⟨S, 5, none⟩ = some v := HSa.out.cell 5
      have hbl := bl_len ve i
      have hadd := cadd_any (S + 1) v (bl ve i) xa xb xn W.drew (by omega) (owns_of3 HSa.out.own (fun _ _ => rfl)) (by have := HSa.out.lt; show S + 1 ≤ W.heap.size; omega)
      have HADD : Hid (type_of% hadd) := hadd
      have htest : ∀ (w2 : World) (v' : Value) (l' : List Vc), Put W.drew w2 (S + 1) v v' l' → w2.cell? ⟨S, 5, none⟩ = some v ∧ w2.frozen? ⟨S, 5, none⟩ = false := fun w2 v' l' hput => by
        have hSb : w2.heap[S]? = some (.cells (s0.cells v) 63) := (hput.grown.block S HSa.out.lt (fun e => by have := own_ge3 HSa.out.own S e.symm; omega)).trans HSa.out.blk
        exact ⟨(cell_of_row _ _ _ _ _ _ hSb).trans rfl, frozen_of_row _ _ _ _ _ hSb⟩
      have HTEST : Hid (type_of% htest) := htest
      have hend : ∀ (w2 : World) (v' : Value), Put W.drew w2 (S + 1) v v' (addV xa xb xn (bl ve i)) → (w2.setCell ⟨S, 5, none⟩ v').cell? ⟨P, 5, none⟩ = some (.slice (some ⟨b, off, none⟩) vn vc) ∧ Hid (∃ v, SumAt (w2.setCell ⟨S, 5, none⟩ v') S s0 v (bl ve (i + 1))) ∧ Hid (Below w.heap.size w (w2.setCell ⟨S, 5, none⟩ v')) := fun w2 v' hput => by
        have hSa : SumAt W.drew S s0 v (bl ve i) := HSa.out.of_heap rfl
        obtain ⟨h1, h2, h3⟩ := sum_put hSa hput
        have hvS : ∀ k, v.ownBlock = some k → S + 1 ≤ k := fun k hk => own_ge3 hSa.own k hk
        have hws := HSE.out
        have hbs := HBa.out.size
        refine ⟨?_, ⟨v', ?_⟩, ?_⟩
        · rw [World.cell?_of_block (w := W) (a := ⟨P, 5, none⟩) (h2.block P (World.block_lt_of_cell? W _ pa) (by omega) (fun e => by have := hvS P e; omega))]
          exact pa
        · rw [bl, HVE.out]
          exact h1
        · exact ⟨h2.os.trans HBa.out.os, h2.tape.trans HBa.out.tape, h2.output.trans HBa.out.output, Nat.le_trans hbs h2.size, fun k hk => (h2.block k (Nat.lt_of_lt_of_le hk hbs) (by omega) (fun e => by have := hvS k e; omega)).trans (HBa.out.block k hk)⟩
      have HEND : Hid (type_of% hend) := hend
      have ha2 : ∀ (w2 : World) (v' : Value) (l' : List Vc), Put W.drew w2 (S + 1) v v' l' → w2.cell? ⟨S, 5, none⟩ = some v ∧ w2.cell? ⟨A, 0, none⟩ = some (.int .u8 xa) ∧ w2.cell? ⟨A, 1, none⟩ = some (.int .u8 xb) ∧ w2.cell? ⟨A, 2, none⟩ = some (.int .i64 xn) := fun w2 v' l' hput => by
        have hAb : w2.heap[A]? = W.heap[A]? := hput.grown.block A (World.block_lt_of_cell? W _ n0) (fun e => hAv.out e.symm)
        exact ⟨(htest w2 v' l' hput).1, (World.cell?_of_block (w := W) (a := ⟨A, 0, none⟩) hAb).trans n0, (World.cell?_of_block (w := W) (a := ⟨A, 1, none⟩) hAb).trans n1, (World.cell?_of_block (w := W) (a := ⟨A, 2, none⟩) hAb).trans n2⟩
      have HA2 : Hid (type_of% ha2) := ha2
      clear ha2
      clear hend
      clear hadd htest k0 k1 k2 hN
      refine wp_region_lastN (S := fun w' => w'.cell? ⟨S, 5, none⟩ = some v ∧ w'.cell? ⟨A, 0, none⟩ = some (.int .u8 xa) ∧ w'.cell? ⟨A, 1, none⟩ = some (.int .u8 xb) ∧ w'.cell? ⟨A, 2, none⟩ = some (.int .i64 xn)) 16 rfl rfl (by kernel_rfl) (by kernel_rfl) ⟨d5, n0, n1, n2⟩ ?_
      intro hSS
      simp only [List.pop_toArray, List.dropLast, List.getElem_toArray, List.getElem_cons_succ, List.getElem_cons_zero]
      refine wpAnyH_take (i := 0) (v := ?v0) rfl (by kernel_rfl) (by kernel_rfl) (by kernel_rfl) (fun _ _ _ h => h) (Or.inl ⟨by rfl, ?hy0⟩) hSS ?rest0
      case hy0 => (intro wz hSw; (try dsimp only at hSw); go_simp; try with_reducible rfl)
      simp only [Act.put, List.getElem_toArray, List.getElem_cons_zero, List.setIfInBounds_toArray, List.set_cons_zero, List.set_cons_succ]
      refine wpAnyH_take (i := 1) (v := ?v1) rfl (by kernel_rfl) (by kernel_rfl) (by kernel_rfl) (fun _ _ _ h => h) (Or.inl ⟨by rfl, ?hy1⟩) hSS ?rest1
      case hy1 => (intro wz hSw; (try dsimp only at hSw); go_simp; try with_reducible rfl)
      simp only [Act.put, List.getElem_toArray, List.getElem_cons_succ, List.getElem_cons_zero, List.setIfInBounds_toArray, List.set_cons_zero, List.set_cons_succ]
      refine wpAnyH_take (i := 2) (v := ?v2) rfl (by kernel_rfl) (by kernel_rfl) (by kernel_rfl) (fun _ _ _ h => h) (Or.inl ⟨by rfl, ?hy2⟩) hSS ?rest2
      case hy2 => (intro wz hSw; (try dsimp only at hSw); go_simp; try with_reducible rfl)
      simp only [Act.put, List.getElem_toArray, List.getElem_cons_succ, List.getElem_cons_zero, List.setIfInBounds_toArray, List.set_cons_zero, List.set_cons_succ]
      refine wpAnyH_take (i := 3) (v := ?v3) rfl (by kernel_rfl) (by kernel_rfl) (by kernel_rfl) (fun _ _ _ h => h) (Or.inl ⟨by rfl, ?hy3⟩) hSS ?rest3
      case hy3 => (intro wz hSw; (try dsimp only at hSw); go_simp; try with_reducible rfl)
      simp only [Act.put, List.getElem_toArray, List.getElem_cons_succ, List.getElem_cons_zero, List.setIfInBounds_toArray, List.set_cons_zero, List.set_cons_succ]
      refine wpAnyH_take (i := 4) (v := ?v4) rfl (by kernel_rfl) (by kernel_rfl) (by kernel_rfl) (fun _ _ _ h => h) (Or.inl ⟨by rfl, ?hy4⟩) hSS ?rest4
      case hy4 => (intro wz hSw; (try dsimp only at hSw); go_simp; try with_reducible rfl)
      simp only [Act.put, List.getElem_toArray, List.getElem_cons_succ, List.getElem_cons_zero, List.setIfInBounds_toArray, List.set_cons_zero, List.set_cons_succ]
      refine wpAnyH_take (i := 5) (v := ?v5) rfl (by kernel_rfl) (by kernel_rfl) (by kernel_rfl) (fun _ _ _ h => h) (Or.inl ⟨by rfl, ?hy5⟩) hSS ?rest5
      case hy5 => (intro wz hSw; (try dsimp only at hSw); go_simp; try with_reducible rfl)
      simp only [Act.put, List.getElem_toArray, List.getElem_cons_succ, List.getElem_cons_zero, List.setIfInBounds_toArray, List.set_cons_zero, List.set_cons_succ]
      refine wpAnyH_take (i := 6) (v := ?v6) rfl (by kernel_rfl) (by kernel_rfl) (by kernel_rfl) (fun _ _ _ h => h) (Or.inl ⟨by rfl, ?hy6⟩) hSS ?rest6
      case hy6 => (intro wz hSw; (try dsimp only at hSw); go_simp; try with_reducible rfl)
      simp only [Act.put, List.getElem_toArray, List.getElem_cons_succ, List.getElem_cons_zero, List.setIfInBounds_toArray, List.set_cons_zero, List.set_cons_succ]
      refine wpAnyH_take (i := 7) (v := ?v7) rfl (by kernel_rfl) (by kernel_rfl) (by kernel_rfl) (fun _ _ _ h => h) (Or.inl ⟨by rfl, ?hy7⟩) hSS ?rest7
      case hy7 => (intro wz hSw; (try dsimp only at hSw); go_simp; try with_reducible rfl)
      simp only [Act.put, List.getElem_toArray, List.getElem_cons_succ, List.getElem_cons_zero, List.setIfInBounds_toArray, List.set_cons_zero, List.set_cons_succ]
      refine wpAnyH_take (i := 8) (v := ?v8) rfl (by kernel_rfl) (by kernel_rfl) (by kernel_rfl) (fun _ _ _ h => h) (Or.inl ⟨by rfl, ?hy8⟩) hSS ?rest8
      case hy8 => (intro wz hSw; (try dsimp only at hSw); go_simp; try with_reducible rfl)
      simp only [Act.put, List.getElem_toArray, List.getElem_cons_succ, List.getElem_cons_zero, List.setIfInBounds_toArray, List.set_cons_zero, List.set_cons_succ]
      refine wpAnyH_take (i := 9) (v := ?v9) rfl (by kernel_rfl) (by kernel_rfl) (by kernel_rfl) (fun _ _ _ h => h) (Or.inl ⟨by rfl, ?hy9⟩) hSS ?rest9
      case hy9 => (intro wz hSw; (try dsimp only at hSw); go_simp; try with_reducible rfl)
      simp only [Act.put, List.getElem_toArray, List.getElem_cons_succ, List.getElem_cons_zero, List.setIfInBounds_toArray, List.set_cons_zero, List.set_cons_succ]
      refine wpAnyH_take (i := 10) (v := ?v10) rfl (by kernel_rfl) (by kernel_rfl) (by kernel_rfl) (fun _ _ _ h => h) (Or.inl ⟨by rfl, ?hy10⟩) hSS ?rest10
      case hy10 => (intro wz hSw; (try dsimp only at hSw); go_simp; try with_reducible rfl)
      simp only [Act.put, List.getElem_toArray, List.getElem_cons_succ, List.getElem_cons_zero, List.setIfInBounds_toArray, List.set_cons_zero, List.set_cons_succ]
      refine wpAnyH_take (i := 11) (v := ?v11) rfl (by kernel_rfl) (by kernel_rfl) (by kernel_rfl) (fun _ _ _ h => h) (Or.inl ⟨by rfl, ?hy11⟩) hSS ?rest11
      case hy11 => (intro wz hSw; (try dsimp only at hSw); go_simp; try with_reducible rfl)
      simp only [Act.put, List.getElem_toArray, List.getElem_cons_succ, List.getElem_cons_zero, List.setIfInBounds_toArray, List.set_cons_zero, List.set_cons_succ]
      refine wpAnyH_take (i := 12) (v := ?v12) rfl (by kernel_rfl) (by kernel_rfl) (by kernel_rfl) (fun _ _ _ h => h) (Or.inl ⟨by rfl, ?hy12⟩) hSS ?rest12
      case hy12 => (intro wz hSw; (try dsimp only at hSw); go_simp; try with_reducible rfl)
      simp only [Act.put, List.getElem_toArray, List.getElem_cons_succ, List.getElem_cons_zero, List.setIfInBounds_toArray, List.set_cons_zero, List.set_cons_succ]
      refine wpAnyH_ready (rs := [13]) (by kernel_rfl) (by simp) ?_
      refine AllReadyH.cons rfl (fun K hK => ?_) AllReadyH.nil
      simp only [List.getElem_toArray, List.getElem_cons_succ, List.getElem_cons_zero]
      go_simp
      refine (HADD.out).mono ?_
      rintro e w2 ⟨v', rfl, hput⟩
      obtain ⟨g, cap, hvv, hg1, hg2⟩ := hput.own.form (addV_pos _ _ _ _)
      have hs2 := HTEST.out w2 _ _ hput
      obtain ⟨p5', HS', HB'⟩ := HEND.out w2 _ hput
      generalize (addV xa xb xn (bl ve i)).length = len at hvv
      subst hvv
      have hS2 := HA2.out w2 _ _ hput
      clear hput
      refine hK.out _ _ hS2 (fun hS2 => ?_)
      clear hK
      refine wpAnyH_take (i := 14) (v := ?v14) rfl (by kernel_rfl) (by kernel_rfl) (by kernel_rfl) (fun _ _ _ h => h) (Or.inl ⟨by rfl, ?hy14⟩) hS2 ?rest14
      case hy14 => (intro wz hSw; (try dsimp only at hSw); go_simp; try with_reducible rfl)
      simp only [Act.put, List.getElem_toArray, List.getElem_cons_succ, List.getElem_cons_zero, List.setIfInBounds_toArray, List.set_cons_zero, List.set_cons_succ]
      refine wpAnyH_take (i := 15) (v := ?v15) rfl (by kernel_rfl) (by kernel_rfl) (by kernel_rfl) (fun _ _ _ h => h) (Or.inl ⟨by rfl, ?hy15⟩) hS2 ?rest15
      case hy15 => (intro wz hSw; (try dsimp only at hSw); go_simp; try with_reducible rfl)
      simp only [Act.put, List.getElem_toArray, List.getElem_cons_succ, List.getElem_cons_zero, List.setIfInBounds_toArray, List.set_cons_zero, List.set_cons_succ]
      refine wpAnyH_done (by kernel_rfl) ?_ _
      simp only [lastQ]
      go_simp
      go_wp2_with fail
      go_roundw
      case rel => exact ⟨i + 1, by omega, by go_num, p5', HS', HB'⟩
      case measure => simp [intOf]; omega
    · have hie : i = vn := by omega
      subst hie
      have HF : Hid (SumAt wr S ⟨r, f, l, x, ov, sk, dm, .pointer none⟩ v (bl ve i)) := by rw [← HSM.out]; exact HS1
      go_wp2
      go_ret
      exact ⟨S, v, rfl, by have := HSE.out; omega, HF.out, HB.out⟩
end Go.Proofs.Ybulkakms
