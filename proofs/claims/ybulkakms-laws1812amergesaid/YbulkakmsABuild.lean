import Derived.Test.YbulkakmsPars
import Derived.Deep.AppendLies
namespace Go.Proofs.Ybulkakms
open Go.RowKit Go.Maps

def Groups (w : World) (base M : Nat) (L : Nat → List DS) (n : Nat) : Prop := ∃ V m s, Dirs w base M L V m n s

theorem setBlock_other (u : World) {M k : Nat} (o : Obj) (h : k ≠ M) : (Go.ChangeMaps.setBlock u M o).heap[k]? = u.heap[k]? := by
  simp only [Go.ChangeMaps.setBlock]; rw [Array.getElem?_setIfInBounds_ne (Ne.symm h)]

/-- the two blocks that the round's loads read. -/
theorem nine {u : World} {A0 A1 : Nat} {q : Sp} {d : Nat} (h0 : u.heap[A0]? = some (.cells #[.int .u8 q.dir, .int .i64 q.f, .int .i64 q.l, .int .u8 q.nm, .int .u8 q.par, .bool q.ar, .bool q.rn] 84)) (h1 : u.heap[A1]? = some (.cells #[.int .u64 0, .int .u64 d] 33)) :
    u.cell? ⟨A0, 0, none⟩ = some (.int .u8 q.dir) ∧ u.cell? ⟨A0, 1, none⟩ = some (.int .i64 q.f) ∧ u.cell? ⟨A0, 2, none⟩ = some (.int .i64 q.l) ∧ u.cell? ⟨A0, 3, none⟩ = some (.int .u8 q.nm) ∧ u.cell? ⟨A0, 4, none⟩ = some (.int .u8 q.par) ∧ u.cell? ⟨A0, 5, none⟩ = some (.bool q.ar) ∧ u.cell? ⟨A0, 6, none⟩ = some (.bool q.rn) ∧ u.cell? ⟨A1, 0, none⟩ = some (.int .u64 0) ∧ u.cell? ⟨A1, 1, none⟩ = some (.int .u64 d) := by
  refine ⟨?_, ?_, ?_, ?_, ?_, ?_, ?_, ?_, ?_⟩
  all_goals first | (rw [cell_of_row u A0 _ _ _ _ h0]; rfl) | (rw [cell_of_row u A1 _ _ _ _ h1]; rfl)

theorem Dirs.alloc {w : World} {base M n s : Nat} {L : Nat → List DS} {V : Nat → Value} {m : Value → Option Value} (h : Dirs w base M L V m n s) (o : Obj) : Dirs (w.alloc o) base M L V m n s :=
  ⟨h.map.of_block (Below.heap_alloc _ _ _ h.map.lt), h.here, h.gone, h.oth, fun d hd => (h.own d hd).alloc o, h.apart, h.lt, by simp; have := h.size; omega, h.cnt⟩

theorem Dirs.value {w : World} {base M n s : Nat} {L : Nat → List DS} {V : Nat → Value} {m : Value → Option Value} (h : Dirs w base M L V m n s) {d : Nat} (hd : d < 4) : (m (refV 0 d)).getD (.slice none 0 0) = V d := by
  by_cases x : L d = []
  · rw [(h.gone d hd x).1, (h.gone d hd x).2]; rfl
  · rw [h.here d hd x]; rfl

theorem Dirs.made (w : World) : Dirs (w.alloc (.map #[] 0)) (w.heap.size + 1) w.heap.size (fun _ => []) (fun _ => .slice none 0 0) (fun _ => none) 0 0 :=
  ⟨MapAt.made w _ _, fun _ _ h => absurd rfl h, fun _ _ _ => ⟨rfl, rfl⟩, fun _ _ => rfl, fun _ _ => World.ownsRow_nil _ _ _ _, fun _ _ _ _ _ g hg => by simp [Value.ownBlock] at hg, Nat.lt_succ_self _, by simp, rfl⟩

/-- nothing that the map of directories is made of has turned. -/
theorem Dirs.kept {w w' : World} {base M n s : Nat} {L : Nat → List DS} {V : Nat → Value} {m : Value → Option Value} (h : Dirs w base M L V m n s) (hM : w'.heap[M]? = w.heap[M]?) (hV : ∀ d, d < 4 → ∀ g, (V d).ownBlock = some g → w'.heap[g]? = w.heap[g]?) (hs : w.heap.size ≤ w'.heap.size) : Dirs w' base M L V m n s :=
  ⟨h.map.of_block hM, h.here, h.gone, h.oth, fun d hd => owns_of (h.own d hd) (hV d hd), h.apart, h.lt, Nat.le_trans h.size hs, h.cnt⟩

/-- A PART AS zzs1812abuild LAYS IT: block B holds the two maps, M the directories, Pm the parents. -/
structure Part (w : World) (lo B M Pm : Nat) (L : Nat → List DS) (V : Nat → Value) (m : Value → Option Value) (n s : Nat) (h : Nat → Bool) (m2 : Value → Option Value) (n2 s2 : Nat) : Prop where
  c0 : w.cell? ⟨B, 0, none⟩ = some (.map (some M))
  c1 : w.cell? ⟨B, 1, none⟩ = some (.map (some Pm))
  dirs : Dirs w (M + 1) M L V m n s
  pars : Pars w Pm h m2 n2 s2
  rows : ∀ d, d < 4 → ∀ g, (V d).ownBlock = some g → g ≠ Pm ∧ g ≠ B
  o1 : lo ≤ M
  o2 : M < Pm
  o3 : Pm < B
  o4 : B < w.heap.size

def PartE (w : World) (lo B : Nat) (L : Nat → List DS) (n : Nat) (h : Nat → Bool) (n2 : Nat) : Prop := ∃ M Pm V m s m2 s2, Part w lo B M Pm L V m n s h m2 n2 s2

theorem ofD_upd (sp : Nat → Sp) (i d : Nat) (hd : (sp i).dir % 4 = d) : upd (fun e : Nat => ofD sp e i) d (ofD sp d i ++ [(sp i).ds]) = fun e : Nat => ofD sp e (i + 1) := by
  funext e
  by_cases x : e = d
  · subst x
    rw [upd_same, ofD, if_pos hd]
  · rw [upd_other _ _ _ x, ofD, if_neg (by rw [hd]; omega)]

/-- behind the append: the store, and what stands then. -/
theorem build_step {w W w1 we w3 : World} {A0 A1 d i s s1 g cap' : Nat} {sp : Nat → Sp} {V : Nat → Value} {m : Value → Option Value} {G oe : Obj}
    (hD : Dirs W (w.heap.size + 1) w.heap.size (fun e => ofD sp e i) V m i s) (hWB : Below w.heap.size w W)
    (l0 : W.heap[A0]? = some (.cells #[.int .u8 (sp i).dir, .int .i64 (sp i).f, .int .i64 (sp i).l, .int .u8 (sp i).nm, .int .u8 (sp i).par, .bool (sp i).ar, .bool (sp i).rn] 84)) (l1 : W.heap[A1]? = some (.cells #[.int .u64 0, .int .u64 d] 33)) (h0 : A0 ≠ w.heap.size) (h1 : A1 ≠ w.heap.size) (a0 : (V d).ownBlock ≠ some A0) (a1 : (V d).ownBlock ≠ some A1)
    (hd : (sp i).dir % 4 = d) (hd4 : d < 4) (hb1 : Below W.heap.size W.drew w1) (hs1 : W.heap.size ≤ w1.heap.size) (hoe : we = Go.ChangeMaps.setBlock (w1.alloc G) w.heap.size oe)
    (hst : ∀ (w2 : World) (val : Value), w2.heap[w.heap.size]? = we.heap[w.heap.size]? → ∃ w3, (Instr.entryStore 37 (.map (some w.heap.size)) (goInt s1) val).run Yba.prog w2 = .ok () w3 ∧ (∃ o, w3 = Go.ChangeMaps.setBlock w2 w.heap.size o) ∧
        ∀ m', m' (refV 0 d) = some val → (∀ x, x ≠ refV 0 d → m' x = m x) → MapAt w3 Yba.prog 33 w.heap.size (i + 1) (if (m (refV 0 d)).isSome then s else s + 1) m')
    (hown3 : w3.ownsRow (w.heap.size + 1) 35 7 (.slice (some ⟨g, 0, none⟩) ((ofD sp d i).length + 1) cap') ((ofD sp d i).length + 1) (flat (ofD sp d i) ++ (sp i).ds.v.toList))
    (hgrow3 : we.grownBy w3 (V d).ownBlock) (hloc3 : (V d).ownBlock = some g ∨ g = we.heap.size) :
    ∃ w4, (Instr.entryStore 37 (.map (some w.heap.size)) (.int .i64 s1) (.slice (some ⟨g, 0, none⟩) ((ofD sp d i).length + 1) cap')).run Yba.prog w3 = .ok () w4 ∧ w3.heap[A0]? = W.heap[A0]? ∧ w3.heap[A1]? = W.heap[A1]? ∧ w4.heap[A0]? = W.heap[A0]? ∧ w4.heap[A1]? = W.heap[A1]? ∧ Hid (Groups w4 (w.heap.size + 1) w.heap.size (fun e => ofD sp e (i + 1)) (i + 1)) ∧ Hid (Below w.heap.size w w4) := by
  have hMW : w.heap.size < W.heap.size := hD.map.lt
  have hwes : we.heap.size = w1.heap.size + 1 := by rw [hoe]; simp [Go.ChangeMaps.setBlock]
  have hob : (V d).ownBlock ≠ some w.heap.size := fun hh => by
    have := own_ge (hD.own d hd4) _ hh
    omega
  have hM3 : w3.heap[w.heap.size]? = we.heap[w.heap.size]? := hgrow3.block _ (by omega) (fun e => hob e.symm)
  have hk : ∀ k, k < W.heap.size → k ≠ w.heap.size → (V d).ownBlock ≠ some k → w3.heap[k]? = W.heap[k]? := fun k hk1 hk2 hk3 => by
    rw [hgrow3.block k (by omega) (fun e => hk3 e.symm), hoe, setBlock_other _ _ hk2, Below.heap_alloc _ _ _ (by omega)]
    exact hb1.block k hk1
  obtain ⟨w4, r1, ⟨o, r2⟩, r3⟩ := hst w3 _ hM3
  have hA0 : A0 < W.heap.size := (Array.getElem?_eq_some_iff.1 l0).1
  have hA1 : A1 < W.heap.size := (Array.getElem?_eq_some_iff.1 l1).1
  have hs3 := hgrow3.size
  obtain ⟨m', s', hD'⟩ := hD.push (w3 := w3) (w4 := w4) (u := we.heap.size) hd4 (l := ofD sp d i ++ [(sp i).ds]) (by simp) (v' := .slice (some ⟨g, 0, none⟩) ((ofD sp d i).length + 1) cap') (by omega) hs3 hk
    (by rw [flat_append, List.length_append]; simpa [flat] using hown3) (by
      rcases hloc3 with hl | hl
      · exact .inl hl.symm
      · exact .inr (by rw [← hl]; rfl)) ⟨o, r2⟩ r3
  rw [ofD_upd sp i d hd] at hD'
  refine ⟨w4, r1, hk A0 hA0 h0 a0, hk A1 hA1 h1 a1, ?_, ?_, ⟨_, _, _, hD'⟩, ?_⟩
  · rw [r2, setBlock_other _ _ h0]; exact hk A0 hA0 h0 a0
  · rw [r2, setBlock_other _ _ h1]; exact hk A1 hA1 h1 a1
  · have b3 : Below w.heap.size we w3 := (Below.refl _ _).grown hgrow3 (by omega) (fun k hk => by have := own_ge (hD.own d hd4) k hk; omega)
    have b2 : Below w.heap.size (w1.alloc G) we := by rw [hoe]; exact ⟨rfl, rfl, rfl, by simp [Go.ChangeMaps.setBlock], fun k hk => setBlock_other _ _ (by omega)⟩
    have b4 : Below w.heap.size w3 w4 := by rw [r2]; exact ⟨rfl, rfl, rfl, by simp [Go.ChangeMaps.setBlock], fun k hk => setBlock_other _ _ (by omega)⟩
    have b1 : Below w.heap.size W w1 := ⟨hb1.os, hb1.tape, hb1.output, hb1.size, fun k hk => hb1.block k (by omega)⟩
    exact ((((hWB.trans b1).alloc (by omega) _).trans b2).trans b3).trans b4

set_option maxHeartbeats 4000000 in
set_option maxRecDepth 100000 in
theorem abuild_any (so xo : Option Addr) (n nx cap xcap : Nat) (sp : Nat → Sp) (x : Nat → Int) (w : World) (hn : n ≤ 1024) (hnx : nx ≤ 1024) (hs : SpansAt w so n sp) (hx : BytesAt w xo nx x) :
    Calls Yba.prog 6 #[.slice so n cap, .slice xo nx xcap] w fun e w' => ∃ B, e = .returned (.pointer (some ⟨B, 0, none⟩)) ∧ PartE w' w.heap.size B (fun d => ofD sp d n) n (fun k => hasB x k nx) nx ∧ Below w.heap.size w w' := by
  obtain ⟨i0, hi, hz0, hz1, hz2⟩ := info_parts info35
  have HS := (show Hid _ from hs)
  have HX := (show Hid _ from hx)
  clear hs hx
  have hmm := @run_makeMap Yba.prog
  go_enter Yba.func6, Yba.ntmps6
  go_wp2
  go_loopw [15] (fun iv wr => ∃ i : Nat, i ≤ n ∧ iv = .int .i64 i ∧ Hid (Groups wr (w.heap.size + 1) w.heap.size (fun d => ofD sp d i) i) ∧ Hid (Below w.heap.size w wr)) (fun iv _ => n - (intOf iv).toNat)
  case atStart => exact ⟨0, Nat.zero_le _, rfl, ⟨_, _, _, Dirs.made w⟩, (Below.refl _ _).alloc (Nat.le_refl _) _⟩
  case round =>
    obtain ⟨i, hin, rfl, hG, hB⟩ := hrel
    by_cases hlt : i < n
    · obtain ⟨b, off, rfl, hb, hc⟩ := HS.out (by omega)
      obtain ⟨hok, hci⟩ := hc i hlt
      obtain ⟨o0, o1, o2, o3, o4, o5⟩ := hok
      have hbs := hB.out.size
      have k0 : wr.cell? ⟨b, off + i * 7, none⟩ = some (.int .u8 (sp i).dir) := (hB.out.cell (p := ⟨b, _, none⟩) hb).trans (hci 0 (by omega))
      have k1 : wr.cell? ⟨b, off + i * 7 + 1, none⟩ = some (.int .i64 (sp i).f) := (hB.out.cell (p := ⟨b, _, none⟩) hb).trans (hci 1 (by omega))
      have k2 : wr.cell? ⟨b, off + i * 7 + 2, none⟩ = some (.int .i64 (sp i).l) := (hB.out.cell (p := ⟨b, _, none⟩) hb).trans (hci 2 (by omega))
      have k3 : wr.cell? ⟨b, off + i * 7 + 3, none⟩ = some (.int .u8 (sp i).nm) := (hB.out.cell (p := ⟨b, _, none⟩) hb).trans (hci 3 (by omega))
      have k4 : wr.cell? ⟨b, off + i * 7 + 4, none⟩ = some (.int .u8 (sp i).par) := (hB.out.cell (p := ⟨b, _, none⟩) hb).trans (hci 4 (by omega))
      have k5 : wr.cell? ⟨b, off + i * 7 + 5, none⟩ = some (.bool (sp i).ar) := (hB.out.cell (p := ⟨b, _, none⟩) hb).trans (hci 5 (by omega))
      have k6 : wr.cell? ⟨b, off + i * 7 + 6, none⟩ = some (.bool (sp i).rn) := (hB.out.cell (p := ⟨b, _, none⟩) hb).trans (hci 6 (by omega))
      have hbw : b < wr.heap.size := by omega
      clear hc hci hmm
      go_upto_region 6 with fail
      obtain ⟨V, m, s, hD⟩ := hG.out
      obtain ⟨d, hd⟩ : ∃ d : Nat, (sp i).dir % 4 = d := ⟨((sp i).dir % 4).toNat, by omega⟩
      have hd4 : d < 4 := by omega
      have HD : Hid (Dirs ((wr.alloc (Obj.cells #[.int .u8 (sp i).dir, .int .i64 (sp i).f, .int .i64 (sp i).l, .int .u8 (sp i).nm, .int .u8 (sp i).par, .bool (sp i).ar, .bool (sp i).rn] 84)).alloc (Obj.cells #[.int .u64 0, .int .u64 d] 33)) (w.heap.size + 1) w.heap.size (fun d => ofD sp d i) V m i s) := (hD.alloc _).alloc _
      have hWB : Hid (Below w.heap.size w ((wr.alloc (Obj.cells #[.int .u8 (sp i).dir, .int .i64 (sp i).f, .int .i64 (sp i).l, .int .u8 (sp i).nm, .int .u8 (sp i).par, .bool (sp i).ar, .bool (sp i).rn] 84)).alloc (Obj.cells #[.int .u64 0, .int .u64 d] 33))) := (hB.out.alloc hbs _).alloc (by simp; omega) _
      rw [hd]
      have l0 : ((wr.alloc (Obj.cells #[.int .u8 (sp i).dir, .int .i64 (sp i).f, .int .i64 (sp i).l, .int .u8 (sp i).nm, .int .u8 (sp i).par, .bool (sp i).ar, .bool (sp i).rn] 84)).alloc (Obj.cells #[.int .u64 0, .int .u64 d] 33)).heap[wr.heap.size]? = some (Obj.cells #[.int .u8 (sp i).dir, .int .i64 (sp i).f, .int .i64 (sp i).l, .int .u8 (sp i).nm, .int .u8 (sp i).par, .bool (sp i).ar, .bool (sp i).rn] 84) := (Below.heap_alloc _ _ _ (by simp)).trans (heap_alloc_new wr _)
      have l1 : ((wr.alloc (Obj.cells #[.int .u8 (sp i).dir, .int .i64 (sp i).f, .int .i64 (sp i).l, .int .u8 (sp i).nm, .int .u8 (sp i).par, .bool (sp i).ar, .bool (sp i).rn] 84)).alloc (Obj.cells #[.int .u64 0, .int .u64 d] 33)).heap[wr.heap.size + 1]? = some (Obj.cells #[.int .u64 0, .int .u64 d] 33) := by
        have := heap_alloc_new (wr.alloc (Obj.cells #[.int .u8 (sp i).dir, .int .i64 (sp i).f, .int .i64 (sp i).l, .int .u8 (sp i).nm, .int .u8 (sp i).par, .bool (sp i).ar, .bool (sp i).rn] 84)) (Obj.cells #[.int .u64 0, .int .u64 d] 33)
        simpa using this
      have ha0 : (V d).ownBlock ≠ some wr.heap.size := fun hh => by have := own_lt (hD.own d hd4) _ hh; omega
      have ha1 : (V d).ownBlock ≠ some (wr.heap.size + 1) := fun hh => by have := own_lt (hD.own d hd4) _ hh; omega
      have hMw := hD.map.lt
      have hv0 : (m (refV 0 d)).getD (.slice none 0 0) = V d := hD.value hd4
      generalize ((wr.alloc (Obj.cells #[.int .u8 (sp i).dir, .int .i64 (sp i).f, .int .i64 (sp i).l, .int .u8 (sp i).nm, .int .u8 (sp i).par, .bool (sp i).ar, .bool (sp i).rn] 84)).alloc (Obj.cells #[.int .u64 0, .int .u64 d] 33)) = W at HD hWB l0 l1 ⊢
      have hA0 : wr.heap.size < W.heap.size := (Array.getElem?_eq_some_iff.1 l0).1
      have hA1 : wr.heap.size + 1 < W.heap.size := (Array.getElem?_eq_some_iff.1 l1).1
      have hA0M : wr.heap.size ≠ w.heap.size := by omega
      have hA1M : wr.heap.size + 1 ≠ w.heap.size := by omega
      generalize wr.heap.size + 1 = A1 at l1 hA1 hA1M ha1 ⊢
      generalize wr.heap.size = A0 at l0 hA0 hA0M ha0 hMw hbw hbs ⊢
      obtain ⟨kl, hkl⟩ := key33 0 d (WalkArith.wf_u64 (by omega)) (WalkArith.wf_u64 (by omega))
      obtain ⟨st, ent, hent⟩ := HD.out.map.entry (t := 37) law33 Yba.underlying37 zero29 (by unfold maxLen; omega) hkl
      have HENT := (show Hid _ from hent)
      have S0 := nine l0 l1
      have hMlt : w.heap.size < W.heap.size := HD.out.map.lt
      clear hent k0 k1 k2 k3 k4 k5 k6 hG hB HX HS
      go_region_held3 (fun w' => w'.cell? ⟨A0, 0, none⟩ = some (.int .u8 (sp i).dir) ∧ w'.cell? ⟨A0, 1, none⟩ = some (.int .i64 (sp i).f) ∧ w'.cell? ⟨A0, 2, none⟩ = some (.int .i64 (sp i).l) ∧ w'.cell? ⟨A0, 3, none⟩ = some (.int .u8 (sp i).nm) ∧ w'.cell? ⟨A0, 4, none⟩ = some (.int .u8 (sp i).par) ∧ w'.cell? ⟨A0, 5, none⟩ = some (.bool (sp i).ar) ∧ w'.cell? ⟨A0, 6, none⟩ = some (.bool (sp i).rn) ∧ w'.cell? ⟨A1, 0, none⟩ = some (.int .u64 0) ∧ w'.cell? ⟨A1, 1, none⟩ = some (.int .u64 d)) (first | assumption | go_keep)
        (first
          | (go_at_call 17
             refine (aspan_out (sp i) _ ⟨o0, o1, o2, o3, o4, o5⟩).mono ?_
             rintro e w1 ⟨rfl, hb1⟩
             have j0 : w1.heap[A0]? = _ := (hb1.block A0 hA0).trans l0
             have j1 : w1.heap[A1]? = _ := (hb1.block A1 hA1).trans l1
             have jM : w1.heap[w.heap.size]? = W.heap[w.heap.size]? := hb1.block _ hMlt
             have hs1 : W.heap.size ≤ w1.heap.size := hb1.size
             have S1 := nine j0 j1
             obtain ⟨hrunE0, ⟨oe, hoe⟩, hst0⟩ := HENT.out (w1.alloc (.cells #[.int .i64 (sp i).f, .int .i64 (sp i).l, .string (nmS ((sp i).nm % 3)), .int .u64 0, .int .u64 ((sp i).par % 2), .bool (sp i).ar, .bool (sp i).rn] 35)) ((Below.heap_alloc _ _ _ (by omega)).trans jM)
             have q0 : (w1.alloc (.cells #[.int .i64 (sp i).f, .int .i64 (sp i).l, .string (nmS ((sp i).nm % 3)), .int .u64 0, .int .u64 ((sp i).par % 2), .bool (sp i).ar, .bool (sp i).rn] 35)).heap[A0]? = _ := (Below.heap_alloc _ _ _ (by omega)).trans j0
             have q1 : (w1.alloc (.cells #[.int .i64 (sp i).f, .int .i64 (sp i).l, .string (nmS ((sp i).nm % 3)), .int .u64 0, .int .u64 ((sp i).par % 2), .bool (sp i).ar, .bool (sp i).rn] 35)).heap[A1]? = _ := (Below.heap_alloc _ _ _ (by omega)).trans j1
             have S2 := nine q0 q1
             have HST := (show Hid _ from hst0)
             have HOE := (show Hid _ from hoe)
             have hrunE : (Instr.mapEntry 37 (.map (some w.heap.size)) (.agg #[.int .u64 0, .int .u64 d])).run Yba.prog (w1.alloc (.cells #[.int .i64 (sp i).f, .int .i64 (sp i).l, .string (nmS ((sp i).nm % 3)), .int .u64 0, .int .u64 ((sp i).par % 2), .bool (sp i).ar, .bool (sp i).rn] 35)) = .ok (.tuple #[V d, .int .i64 (st (w1.alloc (.cells #[.int .i64 (sp i).f, .int .i64 (sp i).l, .string (nmS ((sp i).nm % 3)), .int .u64 0, .int .u64 ((sp i).par % 2), .bool (sp i).ar, .bool (sp i).rn] 35)))]) (ent (w1.alloc (.cells #[.int .i64 (sp i).f, .int .i64 (sp i).l, .string (nmS ((sp i).nm % 3)), .int .u64 0, .int .u64 ((sp i).par % 2), .bool (sp i).ar, .bool (sp i).rn] 35))) := by rw [← hv0]; exact hrunE0
             have S3 := nine (u := ent (w1.alloc (.cells #[.int .i64 (sp i).f, .int .i64 (sp i).l, .string (nmS ((sp i).nm % 3)), .int .u64 0, .int .u64 ((sp i).par % 2), .bool (sp i).ar, .bool (sp i).rn] 35))) (A0 := A0) (A1 := A1) (by rw [hoe]; exact (setBlock_other _ _ hA0M).trans q0) (by rw [hoe]; exact (setBlock_other _ _ hA1M).trans q1)
             have hN : (ent (w1.alloc (.cells #[.int .i64 (sp i).f, .int .i64 (sp i).l, .string (nmS ((sp i).nm % 3)), .int .u64 0, .int .u64 ((sp i).par % 2), .bool (sp i).ar, .bool (sp i).rn] 35))).heap[w1.heap.size]? = some (.cells #[.int .i64 (sp i).f, .int .i64 (sp i).l, .string (nmS ((sp i).nm % 3)), .int .u64 0, .int .u64 ((sp i).par % 2), .bool (sp i).ar, .bool (sp i).rn] 35) := by rw [hoe]; exact (setBlock_other _ _ (by omega)).trans (heap_alloc_new w1 _)
             have hEs : (ent (w1.alloc (.cells #[.int .i64 (sp i).f, .int .i64 (sp i).l, .string (nmS ((sp i).nm % 3)), .int .u64 0, .int .u64 ((sp i).par % 2), .bool (sp i).ar, .bool (sp i).rn] 35))).heap.size = w1.heap.size + 1 := by rw [hoe]; simp [Go.ChangeMaps.setBlock]
             have hO2 : (ent (w1.alloc (.cells #[.int .i64 (sp i).f, .int .i64 (sp i).l, .string (nmS ((sp i).nm % 3)), .int .u64 0, .int .u64 ((sp i).par % 2), .bool (sp i).ar, .bool (sp i).rn] 35))).ownsRow (w.heap.size + 1) 35 7 (V d) (ofD sp d i).length (flat (ofD sp d i)) := owns_of (HD.out.own d hd4) (fun g hg => by
               have g1 := own_lt (HD.out.own d hd4) g hg
               have g2 := own_ge (HD.out.own d hd4) g hg
               rw [hoe, setBlock_other _ _ (by omega), Below.heap_alloc _ _ _ (by omega)]
               exact hb1.block g g1)
             clear hrunE0 hst0 hoe q0 q1
             have HO2 := (show Hid _ from hO2)
             have HN := (show Hid _ from hN)
             clear hO2 hN
             generalize ent (w1.alloc (.cells #[.int .i64 (sp i).f, .int .i64 (sp i).l, .string (nmS ((sp i).nm % 3)), .int .u64 0, .int .u64 ((sp i).par % 2), .bool (sp i).ar, .bool (sp i).rn] 35)) = we at hrunE S3 HST HOE HO2 HN hEs
             generalize st (w1.alloc (.cells #[.int .i64 (sp i).f, .int .i64 (sp i).l, .string (nmS ((sp i).nm % 3)), .int .u64 0, .int .u64 ((sp i).par % 2), .bool (sp i).ar, .bool (sp i).rn] 35)) = s1 at hrunE HST)
          | (refine step_append_lies _ rfl (.tmp 26) (.tmp 29) 29 rfl (w.heap.size + 1) 35 i0 _ 7 56 Yba.underlying29 hi hz0 hz1 hz2 rfl (by decide) (V d) (ofD sp d i).length (flat (ofD sp d i)) (by first | rfl | simp [Act.eval]) HO2.out ⟨w1.heap.size, 0, none⟩ 1 1 (sp i).ds.v.toList (by first | rfl | simp [Act.eval]) rfl (World.news_of_block HN.out) (ds_one _) (by decide) (by have := ofD_le sp d i; unfold maxLen; omega) (by have := ofD_le sp d i; omega) (by omega) we.heap.size rfl ?_
             intro g cap' w3 hown3 hgrow3 hloc3 hlt3
             obtain ⟨w4, hrunS, e0, e1, e2, e3, HG4, HB4⟩ := build_step HD.out hWB.out l0 l1 hA0M hA1M ha0 ha1 hd hd4 hb1 hs1 HOE.out HST.out hown3 hgrow3 hloc3
             have S4 := nine (e0.trans l0) (e1.trans l1)
             have S5 := nine (e2.trans l0) (e3.trans l1)
             clear e0 e1 e2 e3 hown3 hgrow3 hloc3))
      all_goals
        go_wp2
        go_roundw
        case rel => exact ⟨i + 1, by omega, by go_num, HG4, HB4⟩
        case measure => simp [intOf]; omega
    · have e : n = i := by omega
      subst e
      obtain ⟨V, m, s, hD⟩ := hG.out
      obtain ⟨va, rfl⟩ : ∃ va, va = wr := ⟨_, rfl⟩
      have HD := (show Hid _ from hD)
      have hbs := hB.out.size
      have hMl := hD.map.lt
      clear hD hG hlt HS
      go_wp2
      go_loopw [37] (fun iv wx => ∃ j : Nat, j ≤ nx ∧ iv = .int .i64 j ∧ Hid (∃ m2 s2, Pars wx va.heap.size (fun k => hasB x k j) m2 j s2) ∧ Hid (∀ k, k < va.heap.size → wx.heap[k]? = va.heap[k]?) ∧ Hid (Below w.heap.size w wx)) (fun iv _ => nx - (intOf iv).toNat)
      case atStart => exact ⟨0, Nat.zero_le _, rfl, ⟨_, _, Pars.made va⟩, fun k hk => Below.heap_alloc _ _ _ hk, hB.out.alloc hbs _⟩
      case round =>
        obtain ⟨j, hjn, rfl, hP, hK, hBx⟩ := hrel
        by_cases hlt : j < nx
        · obtain ⟨b, off, rfl, hb, hc⟩ := HX.out (by omega)
          obtain ⟨x0, x1, hcj⟩ := hc j hlt
          have hcj' := (hBx.out.cell (p := ⟨b, off + j, none⟩) hb).trans hcj
          obtain ⟨q, hq⟩ : ∃ q : Nat, x j % 8 = q := ⟨(x j % 8).toNat, by omega⟩
          obtain ⟨m2, s2, hp⟩ := hP.out
          obtain ⟨w', hrun, ⟨o, hw'⟩, m3, s3, hp'⟩ := hp.put (by unfold maxLen; omega) (j := q) (by omega)
          rw [hasB_upd x j q hq] at hp'
          have hrun' : (Instr.mapUpdate 38 (.map (some va.heap.size)) (.agg #[.int .u64 (x j % 8), .int .u64 0]) (.agg #[])).run Yba.prog wr = .ok () w' := by rw [hq]; exact hrun
          have HP2 : Hid (∃ m2 s2, Pars w' va.heap.size (fun k => hasB x k (j + 1)) m2 (j + 1) s2) := ⟨_, _, hp'⟩
          have HK2 : Hid (∀ k, k < va.heap.size → w'.heap[k]? = va.heap[k]?) := fun k hk => by rw [hw', setBlock_other _ _ (by omega)]; exact hK.out k hk
          have HB2 : Hid (Below w.heap.size w w') := hBx.out.trans (by rw [hw']; exact ⟨rfl, rfl, rfl, by simp [Go.ChangeMaps.setBlock], fun k hk => setBlock_other _ _ (by omega)⟩)
          clear hc hcj hp hp' hrun hw' hq hP hK hBx
          go_wp2
          go_roundw
          case rel => exact ⟨j + 1, by omega, by go_num, HP2, HK2, HB2⟩
          case measure => simp [intOf]; omega
        · have e : nx = j := by omega
          subst e
          obtain ⟨m2, s2, hp⟩ := hP.out
          have hpl := hp.map.lt
          have HP := (show Hid _ from hp)
          clear hp hP
          go_wp2
          go_ret
          refine ⟨wr.heap.size, rfl, ⟨w.heap.size, va.heap.size, V, m, s, m2, s2, ?_⟩, hBx.out.alloc hBx.out.size _⟩
          have hk : ∀ (o : Obj) (k : Nat), k < va.heap.size → (wr.alloc o).heap[k]? = va.heap[k]? := fun o k hk => (Below.heap_alloc _ _ _ (by omega)).trans (hK.out k hk)
          refine ⟨World.cell?_alloc_at _ _ _ _ rfl, World.cell?_alloc_at _ _ _ _ rfl, HD.out.kept (hk _ _ hMl) (fun d hd g hg => hk _ _ (own_lt (HD.out.own d hd) g hg)) (by simp; omega), HP.out.of_block (Below.heap_alloc _ _ _ hpl), fun d hd g hg => ?_, Nat.le_refl _, hMl, hpl, by simp⟩
          have := own_lt (HD.out.own d hd) g hg
          exact ⟨by omega, by omega⟩
end Go.Proofs.Ybulkakms
