import Derived.Test.YbulkakmsALaw1
namespace Go.Proofs.Ybulkakms
open Go.RowKit Go.Maps

theorem neqNil27 (w : World) : (binOp .neq 27 .nilIface .nilIface).run Yba.prog w = .ok (.bool false) w := by kernel_rfl

theorem SpansAt.on {w w' : World} {so : Option Addr} {n : Nat} {sp : Nat → Sp} (h : SpansAt w so n sp) (hb : Below w.heap.size w w') : SpansAt w' so n sp := fun hp => by
  obtain ⟨b, off, e, hlt, hc⟩ := h hp
  have := hb.size
  exact ⟨b, off, e, by omega, fun i hi => ⟨(hc i hi).1, fun k hk => (hb.cell (p := ⟨b, _, none⟩) hlt).trans ((hc i hi).2 k hk)⟩⟩

theorem BytesAt.on {w w' : World} {so : Option Addr} {n : Nat} {x : Nat → Int} (h : BytesAt w so n x) (hb : Below w.heap.size w w') : BytesAt w' so n x := fun hp => by
  obtain ⟨b, off, e, hlt, hc⟩ := h hp
  have := hb.size
  exact ⟨b, off, e, by omega, fun i hi => ⟨(hc i hi).1, (hc i hi).2.1, (hb.cell (p := ⟨b, _, none⟩) hlt).trans (hc i hi).2.2⟩⟩

set_option maxHeartbeats 4000000 in
set_option maxRecDepth 100000 in
theorem merge_long (s0 s1 x0 x1 : Option Addr) (n0 n1 k0 k1 c0 c1 e0 e1 : Nat) (tt : Int) (w : World) (h : ¬ (n0 ≤ 1024 ∧ n1 ≤ 1024 ∧ k0 ≤ 1024 ∧ k1 ≤ 1024)) :
    Calls Yba.prog 3 #[.slice s0 n0 c0, .slice s1 n1 c1, .slice x0 k0 e0, .slice x1 k1 e1, .int .i64 tt] w fun e w' => e = .returned (.bool true) ∧ w' = w := by
  by_cases h0 : 1024 < n0
  · have b0 : decide ((1024 : Int) < n0) = true := by simp; omega
    go_enter Yba.func3, Yba.ntmps3
    go_wp2
    go_ret
    exact ⟨rfl, rfl⟩
  have b0 : decide ((1024 : Int) < n0) = false := by simp; omega
  by_cases h1 : 1024 < n1
  · have b1 : decide ((1024 : Int) < n1) = true := by simp; omega
    go_enter Yba.func3, Yba.ntmps3
    go_wp2
    go_ret
    exact ⟨rfl, rfl⟩
  have b1 : decide ((1024 : Int) < n1) = false := by simp; omega
  by_cases h2 : 1024 < k0
  · have b2 : decide ((1024 : Int) < k0) = true := by simp; omega
    go_enter Yba.func3, Yba.ntmps3
    go_wp2
    go_ret
    exact ⟨rfl, rfl⟩
  have b2 : decide ((1024 : Int) < k0) = false := by simp; omega
  have h3 : 1024 < k1 := by omega
  have b3 : decide ((1024 : Int) < k1) = true := by simp; omega
  go_enter Yba.func3, Yba.ntmps3
  go_wp2
  go_ret
  exact ⟨rfl, rfl⟩

set_option maxHeartbeats 4000000 in
set_option maxRecDepth 100000 in
theorem merge_any (s0 s1 x0 x1 : Option Addr) (n0 n1 k0 k1 c0 c1 e0 e1 : Nat) (p0 p1 : Nat → Sp) (y0 y1 : Nat → Int) (tt : Int) (w : World) (h0 : n0 ≤ 1024) (h1 : n1 ≤ 1024) (h2 : k0 ≤ 1024) (h3 : k1 ≤ 1024)
    (hs0 : Hid (SpansAt w s0 n0 p0)) (hs1 : Hid (SpansAt w s1 n1 p1)) (hx0 : Hid (BytesAt w x0 k0 y0)) (hx1 : Hid (BytesAt w x1 k1 y1)) :
    Calls Yba.prog 3 #[.slice s0 n0 c0, .slice s1 n1 c1, .slice x0 k0 e0, .slice x1 k1 e1, .int .i64 tt] w fun e w' => e = .returned (.bool true) ∧ Below w.heap.size w w' := by
  have b0 : decide ((1024 : Int) < n0) = false := by simp; omega
  have b1 : decide ((1024 : Int) < n1) = false := by simp; omega
  have b2 : decide ((1024 : Int) < k0) = false := by simp; omega
  have b3 : decide ((1024 : Int) < k1) = false := by simp; omega
  have hq := neqNil27
  go_enter Yba.func3, Yba.ntmps3
  go_wp2_with fail
  refine (abuild_any s0 x0 n0 k0 c0 e0 p0 y0 w h0 h2 hs0.out hx0.out).mono ?_
  rintro e w1 ⟨B, rfl, hP, hb1⟩
  have HP : Hid (PartE w1 w.heap.size B (fun d => ofD p0 d n0) n0 (fun k => hasB y0 k k0) k0) := hP
  have HB1 : Hid (Below w.heap.size w w1) := hb1
  clear hP hb1
  go_wp2_with fail
  refine (abuild_any s1 x1 n1 k1 c1 e1 p1 y1 w1 h1 h3 (hs1.out.on HB1.out) (hx1.out.on HB1.out)).mono ?_
  rintro e w2 ⟨B', rfl, hQ, hb2⟩
  have HQ : Hid (PartE w2 w1.heap.size B' (fun d => ofD p1 d n1) n1 (fun k => hasB y1 k k1) k1) := hQ
  have HB2 : Hid (Below w1.heap.size w1 w2) := hb2
  clear hQ hb2
  go_wp2_with fail
  refine (join_both tt HB1.out.size HP.out HB2.out HQ.out (fun d => ⟨Nat.le_trans (ofD_le p0 d n0) h0, Nat.le_trans (ofD_le p1 d n1) h1⟩) h0 h2).mono ?_
  rintro e w3 ⟨rfl, hA, hb3⟩
  have HA3 : Hid (After w3 B B' (fun d => mrg tt (ofD p0 d n0) (ofD p1 d n1)) (fun d => ofD p1 d n1) (fun k => uni tt (hasB y0 k k0) (hasB y1 k k1))) := hA
  have HB3 : Hid (Below w.heap.size w w3) := (HB1.out.trans (HB2.out.mono HB1.out.size)).trans hb3
  clear hA hb3 HP HQ HB1 HB2
  obtain ⟨LL, hLL⟩ : ∃ LL : Nat → List DS, ∀ d : Nat, LL d = mrg tt (ofD p0 d n0) (ofD p1 d n1) := ⟨fun d => mrg tt (ofD p0 d n0) (ofD p1 d n1), fun _ => rfl⟩
  have HLL : Hid (∀ d : Nat, LL d = mrg tt (ofD p0 d n0) (ofD p1 d n1)) := hLL
  have eLL : (fun d : Nat => mrg tt (ofD p0 d n0) (ofD p1 d n1)) = LL := by funext d; exact (hLL d).symm
  rw [eLL] at HA3
  clear hLL eLL
  go_wp2_with fail
  go_loopw [14, 15, 16, 17, 18, 19, 20, 21, 22, 23] (fun kv dv _ _ _ _ _ _ _ _ wr => ∃ d : Nat, d ≤ 4 ∧ dv = .int .i64 d ∧ kv = .int .i64 (cnt (fun e => !(LL e).isEmpty) d : Nat) ∧ Hid (After wr B B' LL (fun d => ofD p1 d n1) (fun k => uni tt (hasB y0 k k0) (hasB y1 k k1))) ∧ Hid (Below w.heap.size w wr)) (fun _ dv _ _ _ _ _ _ _ _ _ => 4 - (intOf dv).toNat)
  case atStart => exact ⟨0, Nat.zero_le _, rfl, rfl, HA3, HB3⟩
  case round =>
    clear HA3 HB3
    obtain ⟨d, hd4, rfl, rfl, HA, HB⟩ := hrel
    by_cases hlt : d < 4
    · go_wp2_with fail
      refine (aof_any s0 n0 c0 p0 d wr h0 (hs0.out.on HB.out)).mono ?_
      rintro e w4 ⟨v1, rfl, ho1, hb4⟩
      have HO1 := (show Hid _ from ho1)
      have HB4 := (show Hid _ from hb4)
      clear ho1 hb4
      go_wp2_with fail
      refine (aof_any s1 n1 c1 p1 d w4 h1 ((hs1.out.on HB.out).on HB4.out)).mono ?_
      rintro e w5 ⟨v2, rfl, ho2, hb5⟩
      obtain ⟨ve, w6, hrunA, hoe, hg6⟩ := app_first w5 29 w5.heap.size wr.heap.size v1 (ofD p0 d n0) (Nat.le_trans (ofD_le p0 d n0) h0) (owns_below HO1.out hb5) (Nat.le_refl _)
      have HLd : Hid (LL d = mrg tt (ofD p0 d n0) (ofD p1 d n1)) := HLL.out d
      have HE0 : Hid (Exp wr w6 w5.heap.size v2 ve (ofD p0 d n0) (ofD p1 d n1)) := exp_start HB4.out ho2 hb5 hoe hg6
      have hl0 : (ofD p0 d n0).length ≤ 1024 := Nat.le_trans (ofD_le p0 d n0) h0
      have hl1 : (ofD p1 d n1).length ≤ 1024 := Nat.le_trans (ofD_le p1 d n1) h1
      have HRA : Hid ((Builtin.append_ #[29, 29] 29 #[.slice none 0 0, v1]).run Yba.prog w5 = .ok ve w6) := hrunA
      have HLP : Hid ((fun d : Nat => ofD p1 d n1) d = ofD p1 d n1) := rfl
      generalize ofD p0 (d : Int) n0 = lb at HE0 HLd hl0
      generalize ofD p1 (d : Int) n1 = lp at HE0 HLd hl1 HLP
      clear ho2 hb5 hoe hg6 hrunA HO1 HB4
      obtain ⟨a2, n2, c2, hv2⟩ : ∃ a2 n2 c2, v2 = .slice a2 n2 c2 := by
        obtain ⟨_, h0 | ⟨g, cap, cur, h0, _⟩⟩ := HE0.out.own2
        · exact ⟨_, _, _, h0.1⟩
        · exact ⟨_, _, _, h0⟩
      subst hv2
      have hn2 : n2 = lp.length := by
        obtain ⟨_, h0 | ⟨g, cap, cur, h0, _⟩⟩ := HE0.out.own2
        · injection h0.1 with _ e; rw [e, h0.2]
        · injection h0
      subst hn2
      go_upto_region 15 with (at_builtin; refine wpList_append_eq HRA.out rfl _ _ rfl (by first | rfl | simp [Act.eval]) (by first | rfl | simp [Act.eval]) ?_)
      go_cut [78] from 60 to 167 (fun a wx => a = .bool (decide (tt < 0) && decide (0 < lp.length)) ∧ wx = w6)
      case first =>
        by_cases ht : tt < 0
        · have ht1 : decide (tt < 0) = true := by simp [ht]
          go_wp2_with fail
          go_meet
          exact ⟨by rw [ht1]; simp, rfl⟩
        · have ht1 : decide (tt < 0) = false := by simp [ht]
          go_wp2_with fail
          go_meet
          exact ⟨by rw [ht1]; rfl, rfl⟩
      case rest =>
      obtain ⟨rfl, rfl⟩ := hcut
      obtain ⟨bb, hbb⟩ : ∃ bb : Bool, (decide (tt < 0) && decide (0 < lp.length)) = bb := ⟨_, rfl⟩
      rw [hbb]
      go_upto_if 78 with fail
      go_cut [18, 19, 20] from 60 to 167 (fun a _ _ wx => Hid (Exp wr wx w5.heap.size (.slice a2 lp.length c2) a (LL d) lp))
      case first =>
        clear HLP
        cases bb
        · go_wp2_with fail
          go_meet
          rw [HLd.out, mrg_off tt lb lp hbb]
          exact HE0
        · have ht : tt < 0 := by simp at hbb; exact hbb.1
          rcases lp with _ | ⟨x, r⟩
          · simp at hbb
          rw [mrg, if_pos ht] at HLd
          obtain ⟨gq, cap2, hgq, hgq1, hgq2⟩ := HE0.out.own2.form (by simp)
          obtain ⟨rfl, rfl⟩ : a2 = some ⟨gq, 0, none⟩ ∧ c2 = cap2 := by injection hgq with a _ c; exact ⟨a, c⟩
          have hcq : (x :: r).length ≤ c2 := by
            obtain ⟨_, h0 | ⟨g', cap', cur, h0, _, _, h1, _⟩⟩ := HE0.out.own2
            · cases h0.1
            · injection h0 with _ _ h0
              omega
          obtain ⟨av, lv, cv, hve⟩ : ∃ av lv cv, ve = .slice av lv cv := by
            obtain ⟨_, h0 | ⟨g, cap, cur, h0, _⟩⟩ := HE0.out.own
            · exact ⟨_, _, _, h0.1⟩
            · exact ⟨_, _, _, h0⟩
          subst hve
          obtain ⟨wv, rfl⟩ : ∃ wv, wv = wc := ⟨_, rfl⟩
          obtain ⟨b, hb⟩ : ∃ b : Bool, b = match lb.getLast? with | none => false | some y => y.like x := ⟨_, rfl⟩
          have hq0 : 0 < (x :: r).length := by simp
          have hx : ∀ k, k < 7 → wv.cell? ⟨gq, k, none⟩ = x.v[k]? := fun k hk => by
            have hlt : 0 * 7 + k < (x :: r).length * 7 := by simp; omega
            have h1 := HE0.out.own2.cellAt (0 * 7 + k) hlt
            rw [flat_get _ _ _ hq0 hk] at h1
            simpa using h1
          have hx1 : wv.cell? ⟨gq, 1, none⟩ = some (.int .i64 x.l) := hx 1 (by omega)
          have hx2 : wv.cell? ⟨gq, 2, none⟩ = some (.string (nmS x.nm)) := hx 2 (by omega)
          have hx3 : wv.cell? ⟨gq, 3, none⟩ = some (.int .u64 0) := hx 3 (by omega)
          have hx4 : wv.cell? ⟨gq, 4, none⟩ = some (.int .u64 x.par) := hx 4 (by omega)
          have hx6 : wv.cell? ⟨gq, 6, none⟩ = some (.bool x.rn) := hx 6 (by omega)
          have hlow := HE0.out.low2 gq rfl
          clear hx hbb hgq HRA
          generalize hlq : (x :: r).length = lq at hq0 hcq hl1 ⊢
          have HLQ : Hid ((x :: r).length = lq) := hlq
          clear hlq
          go_upto_region 18 with fail
          go_cut [109] from 60 to 167 (fun a wx => a = .bool b ∧ Hid (∃ q, wx = wv.drewN q))
          case first =>
            rcases List.eq_nil_or_concat lb with hKn | ⟨c, y, hKn⟩
            · have hlv : lv = 0 := by
                have h1 := HE0.out.own
                rw [hKn] at h1
                obtain ⟨_, h0 | ⟨g, cap, cur, h0, _⟩⟩ := h1
                · injection h0.1
                · injection h0
              subst hlv
              have hb0 : b = false := by rw [hb, hKn]; rfl
              go_quiet (fail)
              go_wp2_with fail
              go_meet
              exact ⟨by rw [hb0], show ∃ q, _ = _ from ⟨_, by rfl⟩⟩
            · rw [List.concat_eq_append] at hKn
              have hbl : b = y.like x := by rw [hb, hKn]; simp
              have HO := HE0.out.own
              rw [hKn] at HO
              obtain ⟨g, cap, hg, hg1, hg2⟩ := HO.form (by simp)
              obtain ⟨rfl, hlv, rfl⟩ : av = some ⟨g, 0, none⟩ ∧ lv = (c ++ [y]).length ∧ cv = cap := by injection hg with a b c; exact ⟨a, b, c⟩
              rw [hlv] at HO
              rw [List.length_append, List.length_singleton] at hlv
              have hy : ∀ k, k < 7 → wv.cell? ⟨g, c.length * 7 + k, none⟩ = y.v[k]? := fun k hk => by
                have hlt : c.length * 7 + k < (c ++ [y]).length * 7 := by simp; omega
                refine (HO.cellAt _ hlt).trans ?_
                rw [flat_get _ _ _ (by simp) hk]
                simp
              have hy2 : wv.cell? ⟨g, c.length * 7 + 2, none⟩ = some (.string (nmS y.nm)) := hy 2 (by omega)
              have hy3 : wv.cell? ⟨g, c.length * 7 + 3, none⟩ = some (.int .u64 0) := hy 3 (by omega)
              have hy4 : wv.cell? ⟨g, c.length * 7 + 4, none⟩ = some (.int .u64 y.par) := hy 4 (by omega)
              have hcl : c.length < 4096 := by
                rw [hKn] at hl0
                simp at hl0
                omega
              obtain ⟨j, hj0⟩ : ∃ j, c.length = j := ⟨_, rfl⟩
              rw [hj0] at hlv hcl hy2 hy3 hy4
              have hjl : j < lv := by omega
              have hlv0 : 0 < lv := by omega
              have hsub : IntKind.i64.wrap ((lv : Int) - 1) = (j : Int) := by rw [IntWalk.i64_in _ (by omega)]; omega
              have HLV : Hid (lv = j + 1) := hlv
              have hbl' : b = (((nmS y.nm).toList == (nmS x.nm).toList) && (y.par == x.par)) := hbl
              have he33 := eql33 y.par x.par
              clear hy HO hlv hj0 hKn hb hg hx1 hx6
              cases hn1 : ((nmS y.nm).toList == (nmS x.nm).toList)
              · go_quiet (fail)
                go_wp2_with fail
                go_meet
                exact ⟨by rw [hbl', hn1]; rfl, show ∃ q, _ = _ from ⟨_, by rfl⟩⟩
              · go_quiet (fail)
                go_wp2_with fail
                go_meet
                exact ⟨by rw [hbl', hn1]; rfl, show ∃ q, _ = _ from ⟨_, by rfl⟩⟩
          case rest =>
          obtain ⟨rfl, hqc⟩ := hcut
          have HR0 : Hid (Rest wr wc w5.heap.size (.slice (some ⟨gq, 0, none⟩) (x :: r).length c2) (.slice av lv cv) (lb ++ x :: r) lb (x :: r) (x :: r) gq 0) := by
            obtain ⟨q, rfl⟩ := hqc.out
            refine ⟨HE0.out.drewN q, fun i hi k hk => ?_, rfl⟩
            have hlt : i * 7 + k < (x :: r).length * 7 := by omega
            have h1 := HE0.out.own2.cellAt (i * 7 + k) hlt
            rw [flat_get _ _ _ hi hk] at h1
            rw [Nat.zero_add]
            exact h1
          have hx1' : wc.cell? ⟨gq, 1, none⟩ = some (.int .i64 x.l) := by obtain ⟨q, rfl⟩ := hqc.out; exact hx1
          have hx6' : wc.cell? ⟨gq, 6, none⟩ = some (.bool x.rn) := by obtain ⟨q, rfl⟩ := hqc.out; exact hx6
          clear hx1 hx2 hx3 hx4 hx6 hqc
          go_upto_if 109 with fail
          go_cut [19] from 60 to 167 (fun a wx => ∃ gr off rest base cr, a = .slice (some ⟨gr, off, none⟩) (List.length rest) cr ∧ Hid (Rest wr wx w5.heap.size (.slice (some ⟨gq, 0, none⟩) (x :: r).length c2) (.slice av lv cv) (LL d) base rest (x :: r) gr off))
          case first =>
            cases b
            · go_wp2_with fail
              go_meet
              refine ⟨gq, 0, x :: r, lb, c2, by rw [HLQ.out], ?_⟩
              have : LL d = lb ++ x :: r := by
                rw [HLd.out]
                rcases List.eq_nil_or_concat lb with hKn | ⟨c, y, hKn⟩
                · rw [hKn, mergeL_nil]; rfl
                · rw [List.concat_eq_append] at hKn
                  rw [hKn] at hb ⊢
                  rw [mergeL_other]
                  simpa using hb.symm
              rw [this]
              exact HR0
            · obtain ⟨c, y, hKn⟩ : ∃ c y, lb = c ++ [y] := by
                rcases List.eq_nil_or_concat lb with hKn | ⟨c, y, hKn⟩
                · rw [hKn] at hb; cases hb
                · exact ⟨c, y, by rw [hKn, List.concat_eq_append]⟩
              have hlike : y.like x = true := by rw [hKn] at hb; simpa using hb.symm
              rw [hKn] at HR0 HLd
              have HO := HR0.out.exp.own
              obtain ⟨g, cap, hg, hg1, hg2⟩ := HO.form (by simp)
              obtain ⟨rfl, hlv, rfl⟩ : av = some ⟨g, 0, none⟩ ∧ lv = (c ++ [y]).length ∧ cv = cap := by injection hg with a b c; exact ⟨a, b, c⟩
              rw [hlv] at HO
              rw [List.length_append, List.length_singleton] at hlv
              have hy : ∀ k, k < 7 → wc.cell? ⟨g, c.length * 7 + k, none⟩ = y.v[k]? := fun k hk => by
                have hlt : c.length * 7 + k < (c ++ [y]).length * 7 := by simp; omega
                refine (HO.cellAt _ hlt).trans ?_
                rw [flat_get _ _ _ (by simp) hk]
                simp
              have hy1 : wc.cell? ⟨g, c.length * 7 + 1, none⟩ = some (.int .i64 y.l) := hy 1 (by omega)
              have hy6 : wc.cell? ⟨g, c.length * 7 + 6, none⟩ = some (.bool y.rn) := hy 6 (by omega)
              have hf := owns_frozen HO
              have hgne : gq ≠ g := by omega
              have hcl : c.length < 4096 := by
                rw [hKn] at hl0
                simp at hl0
                omega
              have hrq : r.length = lq - 1 := by have := HLQ.out; simp at this; omega
              have HE := (show Hid _ from HR0.out.onto hlv)
              obtain ⟨j, hj0⟩ : ∃ j, c.length = j := ⟨_, rfl⟩
              rw [hj0] at hlv hcl hy1 hy6 HE
              have hjl : j < lv := by omega
              have hlv0 : 0 < lv := by omega
              have hsub : IntKind.i64.wrap ((lv : Int) - 1) = (j : Int) := by rw [IntWalk.i64_in _ (by omega)]; omega
              have HLV : Hid (lv = j + 1) := hlv
              have HLm : Hid (LL d = c ++ [y.onto x] ++ r) := HLd.out.trans (mergeL_like c y x r hlike)
              have hset : ∀ (u : World) (k : Nat) (v : Value) (o : Nat), (u.setCell ⟨g, k, none⟩ v).cell? ⟨gq, o, none⟩ = u.cell? ⟨gq, o, none⟩ := fun u k v o => World.cell?_of_block (w := u) (a := ⟨gq, o, none⟩) (setCell_other u v hgne)
              clear hlv hj0 hb hg HO hy HLd hKn hlike
              by_cases hc1 : c2 = 1
              · go_wp2_with fail
                go_meet
                refine ⟨gq, 0, r, c ++ [y.onto x], c2 - 1, by rw [hrq, hc1], ?_⟩
                rw [HLm.out]
                exact HE.out.away (by omega)
              · go_wp2_with fail
                go_meet
                refine ⟨gq, 7, r, c ++ [y.onto x], c2 - 1, by rw [hrq], ?_⟩
                rw [HLm.out]
                exact HE.out
          case rest =>
            obtain ⟨gr, off, rest, base, cr, rfl, HR⟩ := hcut
            have hll : (LL d).length ≤ 4096 := by
              rw [HLd.out]
              have h1 := mergeL_len lb (x :: r)
              have h2 := HLQ.out
              omega
            obtain ⟨v', w', hra, he⟩ := HR.out.app 29 cr hll
            have HRA := (show Hid _ from hra)
            have HEE := (show Hid _ from he)
            clear hra he
            go_wp2_with (at_builtin; refine wpList_append_eq HRA.out rfl _ _ rfl (by first | rfl | simp [Act.eval]) (by first | rfl | simp [Act.eval]) ?_)
            have hlqe := HLQ.out
            subst hlqe
            go_meet
            exact HEE
      case rest =>
        have HS : Hid (Seen wc u18 (LL d)) := Seen.of_owns hcut.out.own
        have HS2 : Hid (Seen wc (.slice a2 lp.length c2) lp) := Seen.of_owns hcut.out.own2
        have HAc : Hid (After wc B B' LL (fun d => ofD p1 d n1) (fun k => uni tt (hasB y0 k k0) (hasB y1 k k1))) := HA.out.kept hcut.out.below
        have HBc : Hid (Below w.heap.size w wc) := HB.out.trans (hcut.out.below.mono HB.out.size)
        obtain ⟨M, M', ud, vd, cc0, dd0, hlk, hlk', hsu, hsv⟩ := after_look HAc.out hlt
        rw [HLP.out] at hsv
        have HSU := (show Hid (Seen wc ud (LL d)) from hsu)
        have HSV := (show Hid (Seen wc vd lp) from hsv)
        have hBl : B < wc.heap.size := World.block_lt_of_cell? _ _ cc0
        have hBl' : B' < wc.heap.size := World.block_lt_of_cell? _ _ dd0
        obtain ⟨ae, ce, hve, _⟩ := HS.out
        subst hve
        have hll : (LL d).length ≤ 4096 := by
          rw [HLd.out, mrg]
          have := mergeL_len lb lp
          split <;> omega
        have hst := HBc.out.size
        have HON : ∀ (o : Obj) (q : Nat) (v : Value) (l : List DS), Seen wc v l → Seen ((wc.alloc o).drewN q) v l := fun o q v l h => h.of_block_lt (fun k hk => Below.heap_alloc _ _ _ hk) (by simp)
        have HON' := (show Hid _ from HON)
        have HON2 : Hid (∀ (o : Obj) (q r : Nat) (v : Value) (l : List DS), Seen wc v l → Seen (((wc.alloc o).drewN q).drewN r) v l) := fun o q r v l h => h.of_block_lt (fun k hk => Below.heap_alloc _ _ _ hk) (by show wc.heap.size ≤ (wc.alloc o).heap.size; simp)
        have hlk2 : ∀ (o : Obj) (q r : Nat), (Instr.lookup 37 (.map (some M')) (.agg #[.int .u64 0, .int .u64 d]) false).run Yba.prog (((wc.alloc o).drewN q).drewN r) = .ok vd (((wc.alloc o).drewN q).drewN r) := fun o q r => by rw [World.drewN_drewN]; exact hlk' o _
        have hcn := cnt_le (fun e => !(LL e).isEmpty) d
        obtain ⟨ee, hee⟩ : ∃ ee : Bool, (!(LL d).isEmpty) = ee := ⟨_, rfl⟩
        have hcs : cnt (fun e => !(LL e).isEmpty) (d + 1) = cnt (fun e => !(LL e).isEmpty) d + (if ee then 1 else 0) := by rw [cnt, hee]
        have hlz : decide ((0 : Int) < ((LL d).length : Int)) = ee := by
          rw [← hee]
          cases LL d <;> simp
        rw [hee] at hlk
        have HCS := (show Hid _ from hcs)
        have HL4 : Hid ((LL d).length ≤ 4096) := hll
        have HSE := (show Hid (Seen wc (.slice ae (LL d).length ce) (LL d)) from HS.out)
        have HBO : ∀ (o : Obj) (q : Nat), Below wc.heap.size wc ((wc.alloc o).drewN q) := fun o q => by
          have hb := (Below.refl wc.heap.size wc).alloc (Nat.le_refl _) o
          exact ⟨hb.os, hb.tape, hb.output, hb.size, hb.block⟩
        have HBO' := (show Hid _ from HBO)
        clear hsu hsv HON hcut HS HLP hcs hee HBO
        generalize cnt (fun e => !(LL e).isEmpty) d = kk at hcn HCS ⊢
        generalize (LL d).length = le at hll hlz HSE ⊢
        cases ee
        · have hle : le = 0 := by simp at hlz; omega
          subst hle
          clear hlz
          go_upto_region 24 with fail
          go_quiet (fail)
          go_wp2_with fail
          refine (aeq_same ud (.slice ae 0 ce) (LL d) _ HL4.out (HON'.out _ _ _ _ HSU.out) (HON'.out _ _ _ _ HSE.out)).mono ?_
          rintro e wy ⟨rfl, q2, rfl⟩
          go_upto_region 31 with fail
          have HW : ∃ W : World, W = (wc.alloc (.cells #[.int .u64 0, .int .u64 d] 33)).drewN (nq + q2) := ⟨_, rfl⟩
          obtain ⟨W, hW⟩ := HW
          have t0 : W.cell? ⟨B', 0, none⟩ = some (.map (some M')) := by rw [hW]; exact (World.cell?_of_block (w := wc) (a := ⟨B', 0, none⟩) (Below.heap_alloc _ _ _ hBl')).trans dd0
          have t1 : W.cell? ⟨wc.heap.size, 0, none⟩ = some (.int .u64 0) := by rw [hW]; exact (cell_of_row _ _ _ _ _ _ (heap_alloc_new wc _)).trans rfl
          have t2 : W.cell? ⟨wc.heap.size, 1, none⟩ = some (.int .u64 d) := by rw [hW]; exact (cell_of_row _ _ _ _ _ _ (heap_alloc_new wc _)).trans rfl
          have t3 : ∀ n : Nat, (Instr.lookup 37 (.map (some M')) (.agg #[.int .u64 0, .int .u64 d]) false).run Yba.prog (W.drewN n) = .ok vd (W.drewN n) := fun n => by rw [hW]; exact hlk2 _ _ _
          have t4 : Hid (∀ n : Nat, Seen (W.drewN n) vd lp) := fun n => by rw [hW]; exact HON2.out _ _ _ _ _ HSV.out
          have t5 : Hid (∀ n : Nat, Seen (W.drewN n) (.slice a2 lp.length c2) lp) := fun n => by rw [hW]; exact HON2.out _ _ _ _ _ HS2.out
          have t6 : Hid (∀ n : Nat, Below wc.heap.size wc (W.drewN n)) := fun n => by rw [hW, World.drewN_drewN]; exact HBO'.out _ _
          rw [← hW]
          clear hW hlk2 hlk
          go_quiet (first | (go_at_call 9; exact Calls.quiet_of (aeq_same vd (.slice a2 lp.length c2) lp _ (by omega) (t4.out _) (t5.out _))))
          go_wp2_with fail
          go_roundw
          case rel => exact ⟨d + 1, by omega, by go_num, by rw [HCS.out]; rfl, HAc.out.kept (t6.out _), HBc.out.trans ((t6.out _).mono hst)⟩
          case measure => simp [intOf]; omega
        · have hle : 0 < le := by simp at hlz; omega
          clear hlz
          go_upto_region 24 with fail
          go_quiet (fail)
          go_wp2_with fail
          refine (aeq_same ud (.slice ae le ce) (LL d) _ HL4.out (HON'.out _ _ _ _ HSU.out) (HON'.out _ _ _ _ HSE.out)).mono ?_
          rintro e wy ⟨rfl, q2, rfl⟩
          go_upto_region 31 with fail
          have HW : ∃ W : World, W = (wc.alloc (.cells #[.int .u64 0, .int .u64 d] 33)).drewN (nq + q2) := ⟨_, rfl⟩
          obtain ⟨W, hW⟩ := HW
          have t0 : W.cell? ⟨B', 0, none⟩ = some (.map (some M')) := by rw [hW]; exact (World.cell?_of_block (w := wc) (a := ⟨B', 0, none⟩) (Below.heap_alloc _ _ _ hBl')).trans dd0
          have t1 : W.cell? ⟨wc.heap.size, 0, none⟩ = some (.int .u64 0) := by rw [hW]; exact (cell_of_row _ _ _ _ _ _ (heap_alloc_new wc _)).trans rfl
          have t2 : W.cell? ⟨wc.heap.size, 1, none⟩ = some (.int .u64 d) := by rw [hW]; exact (cell_of_row _ _ _ _ _ _ (heap_alloc_new wc _)).trans rfl
          have t3 : ∀ n : Nat, (Instr.lookup 37 (.map (some M')) (.agg #[.int .u64 0, .int .u64 d]) false).run Yba.prog (W.drewN n) = .ok vd (W.drewN n) := fun n => by rw [hW]; exact hlk2 _ _ _
          have t4 : Hid (∀ n : Nat, Seen (W.drewN n) vd lp) := fun n => by rw [hW]; exact HON2.out _ _ _ _ _ HSV.out
          have t5 : Hid (∀ n : Nat, Seen (W.drewN n) (.slice a2 lp.length c2) lp) := fun n => by rw [hW]; exact HON2.out _ _ _ _ _ HS2.out
          have t6 : Hid (∀ n : Nat, Below wc.heap.size wc (W.drewN n)) := fun n => by rw [hW, World.drewN_drewN]; exact HBO'.out _ _
          rw [← hW]
          clear hW hlk2 hlk
          go_quiet (first | (go_at_call 9; exact Calls.quiet_of (aeq_same vd (.slice a2 lp.length c2) lp _ (by omega) (t4.out _) (t5.out _))))
          go_wp2_with fail
          go_roundw
          case rel => exact ⟨d + 1, by omega, by go_num, by rw [HCS.out]; simp, HAc.out.kept (t6.out _), HBc.out.trans ((t6.out _).mono hst)⟩
          case measure => simp [intOf]; omega
    · have hde : d = 4 := by omega
      obtain ⟨va, rfl⟩ : ∃ va, va = wr := ⟨_, rfl⟩
      obtain ⟨M, Pm, cc0, cc1, hl37, hl38, hlk⟩ := after_len HA.out
      rw [← hde] at hl37
      clear hl38 hlk cc1 hde hd4
      generalize cnt (fun e => !(LL e).isEmpty) d = kq at hl37 ⊢
      go_wp2
      go_loopw [24, 25, 26, 27, 28] (fun kv dv _ _ _ wx => ∃ k : Nat, k ≤ 8 ∧ dv = .int .i64 k ∧ kv = .int .i64 (cnt (fun k => uni tt (hasB y0 k k0) (hasB y1 k k1)) k : Nat) ∧ Hid (Below va.heap.size va wx)) (fun _ dv _ _ _ _ => 8 - (intOf dv).toNat)
      case atStart => exact ⟨0, Nat.zero_le _, rfl, rfl, Below.refl _ _⟩
      case round =>
        clear cc0 hl37
        obtain ⟨k, hk8, rfl, rfl, HBk⟩ := hrel
        have HAk : Hid (After wr B B' LL (fun d => ofD p1 d n1) (fun k => uni tt (hasB y0 k k0) (hasB y1 k k1))) := HA.out.kept HBk.out
        have HBw : Hid (Below w.heap.size w wr) := HB.out.trans (HBk.out.mono HB.out.size)
        obtain ⟨M, Pm, cc0, cc1, hl37, hl38, hlk⟩ := after_len HAk.out
        have hBl : B < wr.heap.size := World.block_lt_of_cell? _ _ cc0
        by_cases hk : k < 8
        · have hlk1 := hlk k hk
          have hcs : cnt (fun k => uni tt (hasB y0 k k0) (hasB y1 k k1)) (k + 1) = cnt (fun k => uni tt (hasB y0 k k0) (hasB y1 k k1)) k + (if uni tt (hasB y0 k k0) (hasB y1 k k1) then 1 else 0) := rfl
          have hcn := cnt_le (fun k => uni tt (hasB y0 k k0) (hasB y1 k k1)) k
          have HCS := (show Hid _ from hcs)
          clear hl37 hl38 hlk cc0 hcs
          generalize cnt (fun k => uni tt (hasB y0 k k0) (hasB y1 k k1)) k = kk at hcn HCS ⊢
          have hst := HBk.out.size
          have HNEW : Hid (∀ o : Obj, Below va.heap.size va (wr.alloc o)) := fun o => HBk.out.alloc hst o
          go_wp2_with fail
          refine (ahas_any x0 k0 e0 y0 k wr h2 (hx0.out.on HBw.out)).mono ?_
          rintro e w4 ⟨rfl, rfl⟩
          cases hw0 : hasB y0 k k0
          · by_cases ht : tt < 0
            · have ht1 : decide (tt < 0) = true := by simp [ht]
              go_wp2_with fail
              refine (ahas_any x1 k1 e1 y1 k w4 h3 (hx1.out.on HBw.out)).mono ?_
              rintro e w5 ⟨rfl, rfl⟩
              cases hw1 : hasB y1 k k1
              · have hu : uni tt (hasB y0 k k0) (hasB y1 k k1) = false := by simp [uni, hw0, hw1]
                rw [hu] at hlk1 HCS
                go_wp2
                go_roundw
                case rel => exact ⟨k + 1, by omega, by go_num, by rw [HCS.out]; rfl, HNEW.out _⟩
                case measure => simp [intOf]; omega
              · have hu : uni tt (hasB y0 k k0) (hasB y1 k k1) = true := by simp [uni, hw0, hw1, ht]
                rw [hu] at hlk1 HCS
                go_wp2
                go_roundw
                case rel => exact ⟨k + 1, by omega, by go_num, by rw [HCS.out]; simp, HNEW.out _⟩
                case measure => simp [intOf]; omega
            · have ht1 : decide (tt < 0) = false := by simp [ht]
              have hu : uni tt (hasB y0 k k0) (hasB y1 k k1) = false := by simp [uni, hw0, ht]
              rw [hu] at hlk1 HCS
              go_wp2
              go_roundw
              case rel => exact ⟨k + 1, by omega, by go_num, by rw [HCS.out]; rfl, HNEW.out _⟩
              case measure => simp [intOf]; omega
          · have hu : uni tt (hasB y0 k k0) (hasB y1 k k1) = true := by simp [uni, hw0]
            rw [hu] at hlk1 HCS
            go_wp2
            go_roundw
            case rel => exact ⟨k + 1, by omega, by go_num, by rw [HCS.out]; simp, HNEW.out _⟩
            case measure => simp [intOf]; omega
        · obtain rfl : k = 8 := by omega
          go_wp2
          go_ret
          exact ⟨by simp, HBw.out⟩
end Go.Proofs.Ybulkakms
