import Derived.Test.YbulkakmsCCount
namespace Go.Proofs.Ybulkakms
open Go.RowKit

def addAll (l m : List Vc) : List Vc := m.foldl (fun l x => addV x.a x.b x.n l) l

/-- the head of merge. -/
def headS (s t : Sm) : Sm := if 0 < t.r then { s with f := if s.r = 0 then t.f else s.f, r := wrap64 (s.r + t.r), l := t.l, x := t.x, ov := t.ov } else s
def mergeS (s t : Sm) : Sm := { headS s t with sk := wrap64 (s.sk + t.sk), dm := wrap64 (s.dm + t.dm) }

theorem addAll_sorted {l m : List Vc} (h : Sorted l) : Sorted (addAll l m) := by
  induction m generalizing l with
  | nil => exact h
  | cons x r ih => exact ih (addV_sorted h)

theorem addAll_len (l m : List Vc) : (addAll l m).length ≤ l.length + m.length := by
  induction m generalizing l with
  | nil => exact Nat.le_refl _
  | cons x r ih =>
    have h1 := ih (addV x.a x.b x.n l)
    have h2 := addV_len x.a x.b x.n l
    simp only [List.length_cons]
    show (addAll (addV x.a x.b x.n l) r).length ≤ _
    omega

theorem addAll_take (l m : List Vc) (i : Nat) (h : i < m.length) : addAll l (m.take (i + 1)) = addV (m[i]).a (m[i]).b (m[i]).n (addAll l (m.take i)) := by
  have e : m.take (i + 1) = m.take i ++ [m[i]] := by simp
  unfold addAll
  rw [e, List.foldl_append]
  rfl

theorem SumAt.fld {w : World} {S : Nat} {s : Sm} {v : Value} {l : List Vc} (h : SumAt w S s v l) (k : Nat) (u : Value) {s' : Sm} (e : (s.cells v).setIfInBounds k u = s'.cells v) : SumAt (w.setCell ⟨S, k, none⟩ u) S s' v l := by
  refine ⟨?_, owns_of3 h.own (fun q hq => setCell_other3 _ _ (fun e => by have := own_ge3 h.own q hq; omega))⟩
  rw [← e]
  simp [World.setCell, Array.getElem?_modify, h.blk]

theorem SumAt.of_heap {w w' : World} {S : Nat} {s : Sm} {v : Value} {l : List Vc} (h : SumAt w S s v l) (e : w'.heap = w.heap) : SumAt w' S s v l := h.kept (by rw [e]) (fun _ _ => by rw [e])
theorem Kept.drew {w w' : World} {S : Nat} {v : Value} (h : Kept w w' S v) : Kept w w'.drew S v := ⟨h.os, h.tape, h.output, h.size, h.block⟩

/-- T lies apart from S and its row. -/
def Apart (S T : Nat) (v u : Value) : Prop := T ≠ S ∧ v.ownBlock ≠ some T ∧ ∀ g, u.ownBlock = some g → g ≠ S ∧ v.ownBlock ≠ some g

theorem SumAt.apart {w w' : World} {S T : Nat} {t : Sm} {v u : Value} {m : List Vc} (h : SumAt w T t u m) (k : Kept w w' S v) (a : Apart S T v u) : SumAt w' T t u m :=
  h.kept (k.block T h.lt a.1 a.2.1) (fun g hg => k.block g (own_lt3 h.own g hg) (a.2.2 g hg).1 (a.2.2 g hg).2)

set_option maxHeartbeats 4000000 in
set_option maxRecDepth 100000 in
theorem merge_sum (S T : Nat) (s t : Sm) (v u : Value) (l m : List Vc) (w : World) (hl : l.length + m.length ≤ 4000) (hs : Hid (Sorted l)) (hm : Hid (∀ x ∈ m, x.ok)) (h : Hid (SumAt w S s v l)) (ht : Hid (SumAt w T t u m)) (ha : Hid (Apart S T v u)) :
    Calls Yba.prog 18 #[.pointer (some ⟨S, 0, none⟩), .pointer (some ⟨T, 0, none⟩)] w fun e w' => e = .returned (.tuple #[]) ∧ ∃ v', SumAt w' S (mergeS s t) v' (addAll l m) ∧ Kept w w' S v ∧ Loc w v v' := by
  have hTS : T ≠ S := ha.out.1
  have hset : ∀ (x : World) (k : Nat) (y : Value) (o : Nat), (x.setCell ⟨S, k, none⟩ y).cell? ⟨T, o, none⟩ = x.cell? ⟨T, o, none⟩ := fun x k y o => World.cell?_of_block (w := x) (a := ⟨T, o, none⟩) (setCell_other3 x y hTS)
  have t0 : w.cell? ⟨T, 0, none⟩ = some (.int .i64 t.r) := ht.out.cell 0
  go_enter Yba.func18, Yba.ntmps18
  go_upto_if 10 with fail
  go_cut [10] from 11 to 54 (fun _ wx => Hid (SumAt wx S (headS s t) v l ∧ Kept w wx S v))
  case first =>
    have t1 : w.cell? ⟨T, 1, none⟩ = some (.int .i64 t.f) := ht.out.cell 1
    have t2 : w.cell? ⟨T, 2, none⟩ = some (.int .i64 t.l) := ht.out.cell 2
    have t3 : w.cell? ⟨T, 3, none⟩ = some (.int .i64 t.x) := ht.out.cell 3
    have t4 : w.cell? ⟨T, 4, none⟩ = some (.bool t.ov) := ht.out.cell 4
    have s0 : w.cell? ⟨S, 0, none⟩ = some (.int .i64 s.r) := h.out.cell 0
    have s1 : w.cell? ⟨S, 1, none⟩ = some (.int .i64 s.f) := h.out.cell 1
    have s2 : w.cell? ⟨S, 2, none⟩ = some (.int .i64 s.l) := h.out.cell 2
    have s3 : w.cell? ⟨S, 3, none⟩ = some (.int .i64 s.x) := h.out.cell 3
    have s4 : w.cell? ⟨S, 4, none⟩ = some (.bool s.ov) := h.out.cell 4
    have hf := h.out.frozen
    by_cases hr : 0 < t.r
    · have hrb : decide (0 < t.r) = true := by simp [hr]
      cases hz : (s.r == 0)
      · go_upto_region 3 with fail
        go_region
        all_goals
          go_upto_region 4 with fail
          go_region
          all_goals
            go_wp2_with fail
            go_meet
            have e : headS s t = { s with r := wrap64 (s.r + t.r), l := t.l, x := t.x, ov := t.ov } := by
              have : s.r ≠ 0 := by simpa using hz
              rw [headS, if_pos hr, if_neg this]
            rw [e]
            exact ⟨((((h.out.fld 0 (s' := { s with r := wrap64 (s.r + t.r) }) _ rfl).fld 2 (s' := { s with r := wrap64 (s.r + t.r), l := t.l }) _ rfl).fld 3 (s' := { s with r := wrap64 (s.r + t.r), l := t.l, x := t.x }) _ rfl).fld 4 (s' := { s with r := wrap64 (s.r + t.r), l := t.l, x := t.x, ov := t.ov }) _ rfl).of_heap rfl, ((((((Kept.refl w S v).set 0 _).set 2 _).set 3 _).set 4 _).drew).drew⟩
      · go_upto_region 3 with fail
        go_region
        all_goals
          go_upto_region 4 with fail
          go_region
          all_goals
            go_wp2_with fail
            go_meet
            have e : headS s t = { s with f := t.f, r := wrap64 (s.r + t.r), l := t.l, x := t.x, ov := t.ov } := by
              have : s.r = 0 := by simpa using hz
              rw [headS, if_pos hr, if_pos this]
            rw [e]
            exact ⟨(((((h.out.fld 1 (s' := { s with f := t.f }) _ rfl).fld 0 (s' := { s with f := t.f, r := wrap64 (s.r + t.r) }) _ rfl).fld 2 (s' := { s with f := t.f, r := wrap64 (s.r + t.r), l := t.l }) _ rfl).fld 3 (s' := { s with f := t.f, r := wrap64 (s.r + t.r), l := t.l, x := t.x }) _ rfl).fld 4 (s' := { s with f := t.f, r := wrap64 (s.r + t.r), l := t.l, x := t.x, ov := t.ov }) _ rfl).of_heap rfl, (((((((Kept.refl w S v).set 1 _).set 0 _).set 2 _).set 3 _).set 4 _).drew).drew⟩
    · have e : headS s t = s := by rw [headS, if_neg hr]
      have HE : Hid (headS s t = s) := e
      clear e
      go_wp2_with fail
      go_meet
      rw [HE.out]
      exact ⟨h.out, Kept.refl _ _ _⟩
  case rest =>
    obtain ⟨hS0, hK0⟩ := hcut.out
    have HT0 : Hid (SumAt wc T t u m) := ht.out.apart hK0 ha.out
    have HC0 : Hid (∃ v', SumAt wc S (headS s t) v' (addAll l (m.take 0)) ∧ Kept w wc S v ∧ Loc w v v') := ⟨v, hS0, hK0, Loc.refl _ _⟩
    have hu5 : wc.cell? ⟨T, 5, none⟩ = some u := HT0.out.cell 5
    obtain ⟨au, nu, cu, hu⟩ : ∃ au nu cu, u = .slice au nu cu := by
      obtain ⟨_, h0 | ⟨g, cap, cur, h0, _⟩⟩ := HT0.out.own
      · exact ⟨_, _, _, h0.1⟩
      · exact ⟨_, _, _, h0⟩
    subst hu
    have hnu : nu = m.length := by
      obtain ⟨_, h0 | ⟨g, cap, cur, h0, _⟩⟩ := HT0.out.own
      · injection h0.1 with _ e; rw [e, h0.2]
      · injection h0
    have HNU : Hid (nu = m.length) := hnu
    have hn4 : nu ≤ 4000 := by omega
    clear hS0 hK0 hcut hnu
    go_wp2_with fail
    go_loopw [5, 60] (fun _ iv wr => ∃ i : Nat, i ≤ nu ∧ iv = .int .i64 i ∧ Hid (∃ v', SumAt wr S (headS s t) v' (addAll l (m.take i)) ∧ Kept w wr S v ∧ Loc w v v')) (fun _ iv _ => nu - (intOf iv).toNat)
    case atStart => exact ⟨0, Nat.zero_le _, rfl, HC0⟩
    case round =>
      clear HC0 hu5
      obtain ⟨i, hin, rfl, HC⟩ := hrel
      obtain ⟨v1, hS1, hK1, hL1⟩ := HC.out
      have HS1 : Hid (SumAt wr S (headS s t) v1 (addAll l (m.take i))) := hS1
      have HK1 : Hid (Kept w wr S v) := hK1
      have HL1 : Hid (Loc w v v1) := hL1
      have HT1 : Hid (SumAt wr T t (.slice au nu cu) m) := ht.out.apart hK1 ha.out
      clear hS1 hK1 hL1 HC
      by_cases hlt : i < nu
      · have hml : i < m.length := by rw [← HNU.out]; exact hlt
        obtain ⟨_, _, e, hc⟩ := Seen3.of_owns HT1.out.own
        obtain ⟨g, hg, hgl, hc⟩ := hc (by omega)
        rw [hg] at e
        injection e with e e2 e3
        subst e
        clear e2 e3
        obtain ⟨x, hx⟩ : ∃ x, x = m[i] := ⟨_, rfl⟩
        have hxo := hm.out x (by rw [hx]; exact List.getElem_mem hml)
        have hck := hc i hml
        rw [← hx] at hck
        have HX : Hid (x = m[i]) := hx
        have q0 : wr.cell? ⟨g, i * 3, none⟩ = some (.int .u16 x.a) := hck 0 (by omega)
        have q1 : wr.cell? ⟨g, i * 3 + 1, none⟩ = some (.int .u16 x.b) := hck 1 (by omega)
        have q2 : wr.cell? ⟨g, i * 3 + 2, none⟩ = some (.int .i64 x.n) := hck 2 (by omega)
        have hal := addAll_len l (m.take i)
        rw [List.length_take] at hal
        clear hc hck hx hg
        go_wp2_with fail
        refine (count_any S (headS s t) v1 (addAll l (m.take i)) x.a x.b x.n _ (by omega) (addAll_sorted hs.out) ⟨hxo.2.2.2.2.1, hxo.2.2.2.2.2⟩ (HS1.out.below ((Below.refl _ _).alloc (Nat.le_refl _) _))).mono ?_
        rintro e w2 ⟨rfl, v2, hS2, hK2, hL2⟩
        have HC2 : Hid (∃ v', SumAt w2 S (headS s t) v' (addAll l (m.take (i + 1))) ∧ Kept w w2 S v ∧ Loc w v v') := by
          have hkA : Kept wr (wr.alloc (.cells #[.int .u16 x.a, .int .u16 x.b, .int .i64 x.n] 66)) S v1 := Kept.of_below ((Below.refl _ _).alloc (Nat.le_refl _) _)
          refine ⟨v2, ?_, HK1.out.trans (hkA.trans hK2 (Loc.refl _ _)) HL1.out, HL1.out.trans ((Loc.refl wr v1).trans hL2 hkA.size) HK1.out.size⟩
          rw [addAll_take l m i hml, ← HX.out]
          exact hS2
        clear hS2 hK2 hL2
        go_wp2_with fail
        go_roundw
        case rel => exact ⟨i + 1, by omega, by go_num, HC2⟩
        case measure => simp [intOf]; omega
      · have hie : i = m.length := by rw [← HNU.out]; omega
        have HS2 : Hid (SumAt wr S (headS s t) v1 (addAll l m)) := by
          have := HS1.out
          rw [hie, List.take_length] at this
          exact this
        have r6 : wr.cell? ⟨S, 6, none⟩ = some (.int .i64 (headS s t).sk) := HS2.out.cell 6
        have r7 : wr.cell? ⟨S, 7, none⟩ = some (.int .i64 (headS s t).dm) := HS2.out.cell 7
        have k6 : wr.cell? ⟨T, 6, none⟩ = some (.int .i64 t.sk) := HT1.out.cell 6
        have k7 : wr.cell? ⟨T, 7, none⟩ = some (.int .i64 t.dm) := HT1.out.cell 7
        have hf := HS2.out.frozen
        clear HS1 hie t0
        go_upto_region 10 with fail
        go_region
        all_goals
          go_upto_region 11 with fail
          go_region
          all_goals
            go_wp2_with fail
            refine bodyPost_end (v := .tuple #[]) (by simp [results, Yba.results18]) rfl ?_
            have e : mergeS s t = { headS s t with sk := wrap64 ((headS s t).sk + t.sk), dm := wrap64 ((headS s t).dm + t.dm) } := by
              have e1 : (headS s t).sk = s.sk := by unfold headS; split <;> rfl
              have e2 : (headS s t).dm = s.dm := by unfold headS; split <;> rfl
              rw [mergeS, e1, e2]
            refine ⟨rfl, v1, ?_, (((HK1.out.trans ((Kept.refl wr S v1).set 6 _) HL1.out).trans ((Kept.refl _ S v1).set 7 _) HL1.out).drew).drew, HL1.out⟩
            rw [e]
            exact ((HS2.out.fld 6 (s' := { headS s t with sk := wrap64 ((headS s t).sk + t.sk) }) _ rfl).fld 7 (s' := { headS s t with sk := wrap64 ((headS s t).sk + t.sk), dm := wrap64 ((headS s t).dm + t.dm) }) _ rfl).of_heap rfl
end Go.Proofs.Ybulkakms
