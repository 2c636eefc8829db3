import Derived.Test.YbulkakmsCJoin
namespace Go.Proofs.Ybulkakms
open Go.RowKit

theorem owns_lower3 {w : World} {base base' e size n : Nat} {v : Value} {xs : List Value} (h : w.ownsRow base e size v n xs) (hb : base' ≤ base) : w.ownsRow base' e size v n xs := by
  obtain ⟨h1, h2 | ⟨g, cap, cur, a1, a2, a3⟩⟩ := h
  · exact ⟨h1, .inl h2⟩
  · exact ⟨h1, .inr ⟨g, cap, cur, a1, Nat.le_trans hb a2, a3⟩⟩

/-- an append of versions onto an owned row. -/
theorem app3 (w : World) (ty : TypeId) (base : Nat) (v : Value) (l r : List Vc) (ad : Addr) (c : Nat) (hl : l.length + r.length ≤ 8000) (h : w.ownsRow base 66 3 v l.length (flat3 l)) (hb : base ≤ w.heap.size)
    (hn : ∀ j u, (flat3 r)[j]? = some u → w.cell? (ad.add j) = some u) :
    ∃ v' w', (Builtin.append_ #[61, 61] ty #[v, .slice (some ad) r.length c]).run Yba.prog w = .ok v' w' ∧ w'.ownsRow base 66 3 v' (l ++ r).length (flat3 (l ++ r)) ∧ w.grownBy w' v.ownBlock ∧ (v'.ownBlock = v.ownBlock ∨ v'.ownBlock = some w.heap.size) := by
  obtain ⟨i0, hi, hz0, hz1, hz2⟩ := info66
  obtain ⟨v', w', hr, h2, h3, _, h5⟩ := run_append_own_at (P := Yba.prog) w base 61 ty 66 i0 _ 3 16 Yba.underlying61 hi hz0 hz1 hz2 rfl (by decide) v l.length (flat3 l) h ad r.length c (flat3 r) (flat3_length r) hn (flat3_one _) (by unfold maxLen; omega) (by omega) hb
  exact ⟨v', w', hr, by rw [List.length_append, flat3_append]; exact h2, h3, h5⟩

theorem Put.of_below {w w' : World} {base : Nat} {v v' : Value} {l : List Vc} (h : w'.ownsRow w.heap.size 66 3 v' l.length (flat3 l)) (hl : 0 < l.length) (hb : base ≤ w.heap.size) (k : Below w.heap.size w w') : Put w w' base v v' l := by
  obtain ⟨g, cap, hv, hg, _⟩ := h.form hl
  exact ⟨owns_lower3 h hb, ⟨k.os, k.tape, k.output, k.size, fun i hi _ => k.block i hi⟩, .inr ⟨g, by rw [hv]; rfl, hg⟩⟩

theorem Put.of_grown {w w1 w' : World} {base : Nat} {v v' : Value} {l : List Vc} (hB : Below w.heap.size w w1) (hg : w1.grownBy w' v.ownBlock) (ho : w'.ownsRow base 66 3 v' l.length (flat3 l)) (hl : v'.ownBlock = v.ownBlock ∨ v'.ownBlock = some w1.heap.size) : Put w w' base v v' l :=
  ⟨ho, ⟨hg.os.trans hB.os, hg.tape.trans hB.tape, hg.output.trans hB.output, Nat.le_trans hB.size hg.size, fun k hk hne => (hg.block k (Nat.lt_of_lt_of_le hk hB.size) hne).trans (hB.block k hk)⟩, by
    rcases hl with hl | hl
    · exact .inl hl
    · exact .inr ⟨_, hl, hB.size⟩⟩

/-- the cells of a part of a row. -/
theorem news_at {w : World} {g : Nat} {l : List Vc} (h : ∀ i (hi : i < l.length), ∀ k, k < 3 → w.cell? ⟨g, i * 3 + k, none⟩ = (l[i]).v[k]?) : ∀ j u, (flat3 l)[j]? = some u → w.cell? ⟨g, j, none⟩ = some u := fun j u hu => by
  have hlt : j < l.length * 3 := by rw [← flat3_length]; exact (List.getElem?_eq_some_iff.1 hu).1
  have hj : j = j / 3 * 3 + j % 3 := by omega
  have hi : j / 3 < l.length := by omega
  rw [hj, ← hu]
  conv => rhs; rw [hj]
  rw [flat3_get l (j / 3) (j % 3) hi (by omega), ← h (j / 3) hi (j % 3) (by omega)]

theorem news_take {w : World} {g : Nat} {l : List Vc} (h : ∀ j u, (flat3 l)[j]? = some u → w.cell? ⟨g, j, none⟩ = some u) (i : Nat) : ∀ j u, (flat3 (l.take i))[j]? = some u → w.cell? ((⟨g, 0, none⟩ : Addr).add j) = some u := fun j u hu => by
  have hadd : (⟨g, 0, none⟩ : Addr).add j = ⟨g, j, none⟩ := by unfold Addr.add; split <;> simp_all
  rw [hadd]
  rw [← flat3_take, List.getElem?_take] at hu
  split at hu
  · exact h j u hu
  · cases hu

theorem news_drop {w : World} {g : Nat} {l : List Vc} (h : ∀ j u, (flat3 l)[j]? = some u → w.cell? ⟨g, j, none⟩ = some u) (i : Nat) : ∀ j u, (flat3 (l.drop i))[j]? = some u → w.cell? ((⟨g, i * 3, none⟩ : Addr).add j) = some u := fun j u hu => by
  have hadd : (⟨g, i * 3, none⟩ : Addr).add j = ⟨g, i * 3 + j, none⟩ := by unfold Addr.add; split <;> simp_all
  rw [hadd]
  rw [← flat3_drop, List.getElem?_drop] at hu
  exact h _ u hu

theorem add_found_put {w wr : World} {base g ln c i : Nat} {l : List Vc} {x : Vc} {a b n : Int} (o : Obj) (hO : w.ownsRow base 66 3 (.slice (some ⟨g, 0, none⟩) ln c) l.length (flat3 l)) (hln : l.length = ln) (hB : Below w.heap.size w wr) (hil : i < l.length) (hx : x = l[i]) (hI : ∀ j (h : j < l.length), j < i → (l[j]).lt a b = true) (his : x.is a b = true) :
    Put w ((wr.setCell ⟨g, i * 3 + 2, none⟩ (.int .i64 (wrap64 (x.n + n)))).alloc o) base (.slice (some ⟨g, 0, none⟩) ln c) (.slice (some ⟨g, 0, none⟩) ln c) (addV a b n l) := by
  obtain ⟨p, y, r, hle, hci, hadd⟩ := place_found (l := l) (a := a) (b := b) (n := n) (i := i) ⟨by omega, hI, fun _ => ⟨hil, by rw [← hx]; exact his⟩, fun h => by cases h⟩
  have hy : y = x := by
    rw [hx]
    subst hle
    simp [← hci]
  subst hy
  have hgl : g < w.heap.size := own_lt3 hO g rfl
  have hgr : g < wr.heap.size := Nat.lt_of_lt_of_le hgl hB.size
  have hOr : wr.ownsRow base 66 3 (.slice (some ⟨g, 0, none⟩) ln c) ln (flat3 l) := by
    rw [← hln] at hO ⊢
    exact owns_of3 hO (fun k hk => hB.block k (own_lt3 hO k hk))
  refine ⟨?_, ⟨hB.os, hB.tape, hB.output, ?_, fun k hk hne => ?_⟩, .inl rfl⟩
  · rw [hadd]
    have hll : (p ++ (⟨y.a, y.b, wrap64 (y.n + n)⟩ : Vc) :: r).length = ln := by rw [← hln, hle]; simp
    rw [hll, ← flat3_set, ← hle, hci]
    refine owns_of3 (owns_set3 hOr _) (fun k hk => ?_)
    have e : g = k := by simpa [Value.ownBlock] using hk
    subst e
    exact Below.heap_alloc _ _ _ (by rw [setCell_size3]; exact hgr)
  · have := hB.size
    simp only [World.alloc, Array.size_push, setCell_size3]
    omega
  · have hkg : k ≠ g := fun e => hne (by rw [e]; rfl)
    exact (Below.heap_alloc _ _ _ (by rw [setCell_size3]; have := hB.size; omega)).trans ((setCell_other3 _ _ hkg).trans (hB.block k hk))

set_option maxHeartbeats 8000000 in
set_option maxRecDepth 100000 in
theorem cadd_any (base : Nat) (v : Value) (l : List Vc) (a b n : Int) (w : World) (hl : l.length ≤ 4000) (hown : Hid (w.ownsRow base 66 3 v l.length (flat3 l))) (hb : base ≤ w.heap.size) :
    Calls Yba.prog 12 #[v, .int .u16 a, .int .u16 b, .int .i64 n] w fun e w' => ∃ v', e = .returned v' ∧ Put w w' base v v' (addV a b n l) := by
  obtain ⟨i0, hi0, hz0, hzs, hzb⟩ := info66
  obtain ⟨av, c, hv, hc⟩ : ∃ av c, v = .slice av l.length c ∧ l.length ≤ c := by
    obtain ⟨_, ⟨h0, hn⟩ | ⟨g, cap, cur, h0, _, _, h1, _⟩⟩ := hown.out
    · exact ⟨none, 0, by rw [h0, hn], by omega⟩
    · exact ⟨_, _, h0, h1⟩
  subst hv
  obtain ⟨ln, hln⟩ : ∃ ln, l.length = ln := ⟨_, rfl⟩
  have HLN : Hid (l.length = ln) := hln
  rw [hln] at hl hc ⊢
  have HO : Hid (w.ownsRow base 66 3 (.slice av ln c) l.length (flat3 l)) := by rw [← hln]; exact hown
  clear hln hown
  go_enter Yba.func12, Yba.ntmps12
  go_wp2
  go_loopw [9, 10, 11] (fun iv _ _ wr => ∃ i : Nat, i ≤ ln ∧ iv = .int .i64 i ∧ Hid (Below w.heap.size w wr) ∧ Hid (∀ j (h : j < l.length), j < i → (l[j]).lt a b = true)) (fun iv _ _ _ => ln - (intOf iv).toNat)
  case atStart => exact ⟨0, Nat.zero_le _, rfl, Below.refl _ _, fun j _ h => by omega⟩
  case round =>
    obtain ⟨i, hin, rfl, HB, HI⟩ := hrel
    have HOr : Hid (wr.ownsRow base 66 3 (.slice av ln c) l.length (flat3 l)) := owns_of3 HO.out (fun k hk => HB.out.block k (own_lt3 HO.out k hk))
    have hsz := HB.out.size
    by_cases hlt : i < ln
    · have hil : i < l.length := by rw [HLN.out]; exact hlt
      obtain ⟨g, cap, hg, hg1, hg2⟩ := HOr.out.form (by omega)
      injection hg with e e2 e3
      subst e
      clear e2 e3
      have hcells : ∀ q (hq : q < l.length), ∀ k, k < 3 → wr.cell? ⟨g, q * 3 + k, none⟩ = (l[q]).v[k]? := fun q hq k hk => by
        rw [← flat3_get l q k hq hk]
        have := HOr.out
        rw [HLN.out] at this
        exact this.cellAt _ (by rw [← HLN.out]; omega)
      have HNW : Hid (∀ j u, (flat3 l)[j]? = some u → wr.cell? ⟨g, j, none⟩ = some u) := news_at hcells
      obtain ⟨x, hx⟩ : ∃ x, x = l[i] := ⟨_, rfl⟩
      have hck := hcells i hil
      rw [← hx] at hck
      have HX : Hid (x = l[i]) := hx
      have q0 : wr.cell? ⟨g, i * 3, none⟩ = some (.int .u16 x.a) := hck 0 (by omega)
      have q1 : wr.cell? ⟨g, i * 3 + 1, none⟩ = some (.int .u16 x.b) := hck 1 (by omega)
      have q2 : wr.cell? ⟨g, i * 3 + 2, none⟩ = some (.int .i64 x.n) := hck 2 (by omega)
      have hgf : ∀ j, wr.frozen? ⟨g, j, none⟩ = false := fun j => by
        have := HOr.out
        rw [HLN.out] at this
        exact owns_frozen3 this j
      have hlw : g < wr.heap.size := hg2
      clear hck hcells hx
      have HGL : Hid (g < w.heap.size) := own_lt3 HO.out g rfl
      go_upto_region 5 with fail
      go_cut [31] from 12 to 79 (fun y wx => y = .bool (x.is a b) ∧ wx = wr.alloc (.cells #[.int .u16 x.a, .int .u16 x.b, .int .i64 x.n] 66))
      case first =>
        have e0 : x.is a b = ((x.a == a) && (x.b == b)) := rfl
        cases h1 : (x.a == a)
        · go_wp2_with fail
          go_meet
          exact ⟨by rw [e0, h1]; rfl, rfl⟩
        · go_wp2_with fail
          go_meet
          exact ⟨by rw [e0, h1]; rfl, rfl⟩
      case rest =>
      obtain ⟨rfl, rfl⟩ := hcut
      cases his : x.is a b
      · go_upto_region 8 with fail
        go_cut [57] from 12 to 79 (fun y wx => y = .bool (!(x.lt a b)) ∧ wx = wr.alloc (.cells #[.int .u16 x.a, .int .u16 x.b, .int .i64 x.n] 66))
        case first =>
          have his2 : ¬ (x.a = a ∧ x.b = b) := by simpa [Vc.is] using his
          cases h1 : decide (a < x.a)
          · cases h2 : (x.a == a)
            · have e : x.lt a b = true := by simp [Vc.lt] at *; omega
              go_wp2_with fail
              go_meet
              exact ⟨by rw [e]; rfl, rfl⟩
            · cases h3 : decide (b < x.b)
              · have e : x.lt a b = true := by simp [Vc.lt] at *; omega
                go_wp2_with fail
                go_meet
                exact ⟨by rw [e]; rfl, rfl⟩
              · have e : x.lt a b = false := by simp [Vc.lt] at *; omega
                go_wp2_with fail
                go_meet
                exact ⟨by rw [e]; rfl, rfl⟩
          · have e : x.lt a b = false := by simp [Vc.lt] at *; omega
            go_wp2_with fail
            go_meet
            exact ⟨by rw [e]; rfl, rfl⟩
        case rest =>
        obtain ⟨rfl, rfl⟩ := hcut
        cases hxl : x.lt a b
        · have HAD : Hid (addV a b n l = l.take i ++ ⟨a, b, n⟩ :: l.drop i) := place_new ⟨by omega, HI.out, (fun h => by cases h), fun _ h => ⟨by rw [← HX.out]; exact his, by rw [← HX.out]; exact hxl⟩⟩
          have HNW0 : Hid (∀ w', Below w.heap.size w w' → ∀ j u, (flat3 l)[j]? = some u → w'.cell? ⟨g, j, none⟩ = some u) := fun w' hb' j u hu => by
            have e := HNW.out j u hu
            rw [HB.out.cell (p := ⟨g, j, none⟩) HGL.out] at e
            exact (hb'.cell (p := ⟨g, j, none⟩) HGL.out).trans e
          have HBa : Hid (Below w.heap.size w (wr.alloc (.cells #[.int .u16 x.a, .int .u16 x.b, .int .i64 x.n] 66))) := HB.out.alloc hsz _
          generalize wr.alloc (.cells #[.int .u16 x.a, .int .u16 x.b, .int .i64 x.n] 66) = Wa at HBa ⊢
          have hsa := HBa.out.size
          clear q0 q1 q2 hgf HNW HOr
          go_upto_region 10 with (at_make; refine wpList_make_own _ rfl _ _ 61 rfl w.heap.size 66 i0 _ 3 Yba.underlying61 hi0 hz0 hzs _ _ _ (ln + 1) rfl rfl (by simp) (by rw [hzb]; omega) (by unfold maxLen; omega) hsa ?_; intro w1 hown1 hgrow1)
          have HB1 : Hid (Below w.heap.size w w1) := HBa.out.grown hgrow1 hsa (fun k hk => by cases hk)
          obtain ⟨v2, w2, hr2, ho2, hg2', hl2⟩ := app3 w1 61 w.heap.size _ [] (l.take i) ⟨g, 0, none⟩ c (by simp; omega) hown1 HB1.out.size (news_take (HNW0.out w1 HB1.out) i)
          have e2 : (l.take i).length = i := by rw [List.length_take]; omega
          rw [e2] at hr2
          have HR2 : Hid (type_of% hr2) := hr2
          have HB2 : Hid (Below w.heap.size w w2) := HB1.out.grown hg2' HB1.out.size (fun k hk => own_ge3 hown1 k hk)
          rw [List.nil_append] at ho2
          have HO2 : Hid (type_of% ho2) := ho2
          clear hr2 hg2' hl2 ho2 e2 hgrow1 hown1
          go_upto_region 11 with (at_builtin; refine wpList_app_eq HR2.out rfl _ _ rfl (by first | rfl | simp [Act.eval]) (by first | rfl | simp [Act.eval]) ?_)
          have HB2a : Hid (Below w.heap.size w (w2.alloc (.cells #[.int .u16 a, .int .u16 b, .int .i64 n] 66))) := HB2.out.alloc HB2.out.size _
          have ho2a : (w2.alloc (.cells #[.int .u16 a, .int .u16 b, .int .i64 n] 66)).ownsRow w.heap.size 66 3 v2 (l.take i).length (flat3 (l.take i)) := owns_of3 HO2.out (fun k hk => Below.heap_alloc _ _ _ (own_lt3 HO2.out k hk))
          obtain ⟨v3, w3, hr3, ho3, hg3, hl3⟩ := app3 (w2.alloc (.cells #[.int .u16 a, .int .u16 b, .int .i64 n] 66)) 61 w.heap.size v2 (l.take i) [⟨a, b, n⟩] ⟨w2.heap.size, 0, none⟩ 1 (by simp; omega) ho2a HB2a.out.size (news_x (x := ⟨a, b, n⟩) (heap_alloc_new w2 _))
          have HR3 : Hid ((Builtin.append_ #[61, 61] 61 #[v2, .slice (some ⟨w2.heap.size, 0, none⟩) 1 1]).run Yba.prog (w2.alloc (.cells #[.int .u16 a, .int .u16 b, .int .i64 n] 66)) = .ok v3 w3) := hr3
          have HB3 : Hid (Below w.heap.size w w3) := HB2a.out.grown hg3 HB2a.out.size (fun k hk => own_ge3 ho2a k hk)
          have HO3 : Hid (type_of% ho3) := ho3
          clear hr3 hg3 hl3 ho3 ho2a HO2 HB2a
          go_upto_region 12 with (at_builtin; refine wpList_app_eq HR3.out rfl _ _ rfl (by first | rfl | simp [Act.eval]) (by first | rfl | simp [Act.eval]) ?_)
          obtain ⟨v4, w4, hr4, ho4, hg4, hl4⟩ := app3 w3 61 w.heap.size v3 (l.take i ++ [⟨a, b, n⟩]) (l.drop i) ⟨g, i * 3, none⟩ (c - i) (by have := HLN.out; simp; omega) HO3.out HB3.out.size (news_drop (HNW0.out w3 HB3.out) i)
          have e4 : (l.drop i).length = ln - i := by rw [List.length_drop, HLN.out]
          rw [e4] at hr4
          have HR4 : Hid (type_of% hr4) := hr4
          have HB4 : Hid (Below w.heap.size w w4) := HB3.out.grown hg4 HB3.out.size (fun k hk => own_ge3 HO3.out k hk)
          have HO4 : Hid (type_of% ho4) := ho4
          clear hr4 hg4 hl4 ho4 e4
          have hci : ¬ (c = i) := by omega
          have hil2 : (i : Int) ≤ (ln : Int) := by omega
          go_wp2_with (at_builtin; refine wpList_app_eq HR4.out rfl _ _ rfl (by first | rfl | simp [Act.eval]) (by first | rfl | simp [Act.eval]) ?_)
          go_ret
          refine ⟨_, rfl, ?_⟩
          rw [HAD.out]
          have e5 : l.take i ++ (⟨a, b, n⟩ : Vc) :: l.drop i = l.take i ++ [⟨a, b, n⟩] ++ l.drop i := by simp
          rw [e5]
          exact Put.of_below HO4.out (by simp; omega) hb HB4.out
        · have HI2 : Hid (∀ j (h : j < l.length), j < i + 1 → (l[j]).lt a b = true) := fun j h hj => by
            by_cases e : j = i
            · subst e; rw [← HX.out]; exact hxl
            · exact HI.out j h (by omega)
          go_wp2_with fail
          go_roundw
          case rel => exact ⟨i + 1, by omega, by go_num, HB.out.alloc hsz _, HI2⟩
          case measure => simp [intOf]; omega
      · have HP := add_found_put (n := n) (.cells #[.int .u16 x.a, .int .u16 x.b, .int .i64 x.n] 66) HO.out HLN.out HB.out hil HX.out HI.out his
        have HPP : Hid (type_of% HP) := HP
        clear HP
        go_wp2
        go_ret
        exact ⟨_, rfl, HPP.out⟩
    · have hie : i = ln := by omega
      have HAD : Hid (addV a b n l = l ++ [⟨a, b, n⟩]) := by
        have := place_new (l := l) (a := a) (b := b) (n := n) (i := l.length) ⟨Nat.le_refl _, fun j h hj => HI.out j h (by rw [hie, ← HLN.out]; exact hj), (fun h => by cases h), fun _ h => by omega⟩
        rw [List.take_length, List.drop_length] at this
        exact this
      have HBa : Hid (Below w.heap.size w (wr.alloc (.cells #[.int .u16 a, .int .u16 b, .int .i64 n] 66))) := HB.out.alloc hsz _
      have hoa : (wr.alloc (.cells #[.int .u16 a, .int .u16 b, .int .i64 n] 66)).ownsRow base 66 3 (.slice av ln c) l.length (flat3 l) := owns_of3 HOr.out (fun k hk => Below.heap_alloc _ _ _ (own_lt3 HOr.out k hk))
      obtain ⟨v3, w3, hr3, ho3, hg3, hl3⟩ := app3 (wr.alloc (.cells #[.int .u16 a, .int .u16 b, .int .i64 n] 66)) 61 base (.slice av ln c) l [⟨a, b, n⟩] ⟨wr.heap.size, 0, none⟩ 1 (by have := HLN.out; simp; omega) hoa (Nat.le_trans hb HBa.out.size) (news_x (x := ⟨a, b, n⟩) (heap_alloc_new wr _))
      have HR3 : Hid ((Builtin.append_ #[61, 61] 61 #[.slice av ln c, .slice (some ⟨wr.heap.size, 0, none⟩) 1 1]).run Yba.prog (wr.alloc (.cells #[.int .u16 a, .int .u16 b, .int .i64 n] 66)) = .ok v3 w3) := hr3
      have HP : Hid (Put w w3 base (.slice av ln c) v3 (addV a b n l)) := by
        rw [HAD.out]
        exact Put.of_grown HBa.out hg3 ho3 hl3
      clear hr3 hg3 hl3 ho3 hoa hie
      go_wp2_with (at_builtin; refine wpList_app_eq HR3.out rfl _ _ rfl (by first | rfl | simp [Act.eval]) (by first | rfl | simp [Act.eval]) ?_)
      go_ret
      exact ⟨_, rfl, HP.out⟩
end Go.Proofs.Ybulkakms
