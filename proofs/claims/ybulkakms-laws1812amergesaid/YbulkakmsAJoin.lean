import Derived.Test.YbulkakmsAJoin4
namespace Go.Proofs.Ybulkakms
open Go.RowKit Go.Maps

set_option maxHeartbeats 4000000 in
set_option maxRecDepth 100000 in
theorem join_nothing (B : Nat) (v : Value) (tt : Int) (w : World) (h : 0 ≤ tt) :
    Calls Yba.prog 7 #[.pointer (some ⟨B, 0, none⟩), v, .int .i64 tt] w fun e w' => e = .returned .nilIface ∧ w' = w := by
  have hd : decide (0 ≤ tt) = true := by simp [h]
  go_enter Yba.func7, Yba.ntmps7
  go_wp2
  go_ret
  exact ⟨rfl, rfl⟩

set_option maxHeartbeats 4000000 in
set_option maxRecDepth 100000 in
theorem join_any (B B' lo lo' M Pm M' Pm' n s n2 s2 n' s' n2' s2' : Nat) (L L' : Nat → List DS) (V V' : Nat → Value) (m m2 m' m2' : Value → Option Value) (h h' : Nat → Bool) (tt : Int) (w : World) (hto : tt < 0) (hlo : lo ≤ w.heap.size)
    (hp : Hid (Part w lo B M Pm L V m n s h m2 n2 s2)) (hq : Hid (Part w lo' B' M' Pm' L' V' m' n' s' h' m2' n2' s2')) (hsep : Hid (B < lo' ∧ ∀ d, d < 4 → ∀ g, (V d).ownBlock = some g → g < lo')) (hLn : Hid (∀ d, (L d).length ≤ 1024 ∧ (L' d).length ≤ 1024)) (hn : n ≤ 1024) (hn2 : n2 ≤ 1024) :
    Calls Yba.prog 7 #[.pointer (some ⟨B, 0, none⟩), .iface 24 (.pointer (some ⟨B', 0, none⟩)), .int .i64 tt] w fun e w' => e = .returned .nilIface ∧ After w' B B' (fun d => mergeL (L d) (L' d)) L' (fun k => h k || h' k) ∧ Below lo w w' := by
  have hd : decide (0 ≤ tt) = false := by simp; omega
  have q0 := hq.out.c0
  have ha := assert24
  obtain ⟨ws, hrun, hr, hg, hws⟩ := hq.out.dirs.map.range keyed33 (t := 37) Yba.underlying37
  have HJ : Hid (JoinE lo w ws ws M w.heap.size L L' V M' n' m' (n + s') s') := ⟨_, _, _, _, _, _, _, joining_start hp.out hq.out hlo hr hg, Nat.le_refl _, rfl⟩
  have HG : Hid (w.grownBy ws none) := hg
  clear hr hg
  go_enter Yba.func7, Yba.ntmps7
  go_wp2
  go_loopg [8, 9, 10, 11] s' (fun g _ _ _ _ wr => Hid (JoinE lo w ws wr M w.heap.size L L' V M' n' m' (n + s') g))
  case atStart => exact HJ
  case round =>
    clear HJ hrun
    obtain ⟨todo, cnt, K, U, mk, nk, sk, hj, hcnt, rfl⟩ := hrel.out
    rcases hj.rng.next keyed33 0 with ⟨hdone, hnrun⟩ | ⟨key, kl, v, w1, cnt', hkey, htodo, hm, hnrun, hrg, hlt, hgr, hsz, hen⟩
    · obtain ⟨va, rfl⟩ : ∃ va, va = wr := ⟨_, rfl⟩
      have HBT : Hid (Between va B M Pm B' M' Pm' (fun d => mergeL (L d) (L' d)) L' U V' mk m' m2 m2' nk sk n' s' n2 s2 n2' s2' h h') := between hp.out hq.out hsep.out hj HG.out hws hdone
      have o1 := hp.out.o1
      have o2 := hp.out.o2
      have hlw := hj.below.size
      have hd1 := HBT.out.d1
      have hPl : Pm < va.heap.size := HBT.out.pars.map.lt
      have hPl' : Pm' < va.heap.size := HBT.out.pars'.map.lt
      have hBl : B < va.heap.size := World.block_lt_of_cell? _ _ HBT.out.c1
      have hBP : B ≠ Pm := HBT.out.e2
      have hs2' : s2' ≤ 8 := by rw [hq.out.pars.cnt]; exact cnt_le _ _
      obtain ⟨ws2, hrun2, hr2, hg2, hws2⟩ := HBT.out.pars'.map.range keyed33 (t := 38) Yba.underlying38
      have HU0 : Hid (UniteE lo w ws2 ws2 Pm va.heap.size h h' Pm' n2' m2' (n2 + s2') s2') := ⟨_, _, _, _, _, _, uniting_start HBT.out.pars HBT.out.pars' hj.below (by omega) hr2 hg2, Nat.le_refl _, rfl⟩
      have HG2 : Hid (va.grownBy ws2 none) := hg2
      have HWS2 : Hid (ws2.heap.size = va.heap.size + 1) := hws2
      have HB1 : Hid (va.cell? ⟨B, 1, none⟩ = some (.map (some Pm))) := HBT.out.c1
      clear hr2 hg2 hws2 hj hcnt hrel hws q0 HG
      go_wp2
      go_loopg [12] s2' (fun g _ wx => Hid (UniteE lo w ws2 wx Pm va.heap.size h h' Pm' n2' m2' (n2 + s2') g))
      case atStart => exact HU0
      case round =>
        clear HU0 hrun2 hnrun
        obtain ⟨todo2, cnt2, H, mz, nz, sz, hu, hcnt2, rfl⟩ := hrel.out
        rcases hu.rng.next keyed33 0 with ⟨hdone2, hnrun2⟩ | ⟨key, kl, v, w1, cnt', hkey, htodo, hm, hnrun2, hrg, hlt, hgr, hsz, hen⟩
        · have HA := after_end HBT.out hu HG2.out hdone2
          go_wp2
          go_ret
          exact ⟨rfl, HA, hu.below⟩
        · obtain ⟨j, hj8, rfl, hjt, rfl⟩ := hq.out.pars.key_is hm
          have hus := hu.size
          have h2s := HWS2.out
          obtain ⟨w4, hrunS, hw4, HU4⟩ := unite_step (.cells #[.int .u64 j, .int .u64 0] 33) hu hgr hsz (by omega) HBT.out.e4 (by omega) (by omega) hj8 hjt hrg (by omega) hlt hcnt2 (by unfold maxLen; omega)
          have hB1 : w1.cell? ⟨B, 1, none⟩ = some (.map (some Pm)) := by
            rw [World.cell?_of_block (w := va) (a := ⟨B, 1, none⟩) ((hgr.block B (by omega) (fun e => by injection e with e; omega)).trans ((hu.frame B (by omega) hBP (by omega)).trans (HG2.out.block B hBl (by simp))))]
            exact HB1.out
          have hBw : B < w1.heap.size := by omega
          have hN : (w1.alloc (.cells #[.int .u64 j, .int .u64 0] 33)).heap[w1.heap.size]? = some (.cells #[.int .u64 j, .int .u64 0] 33) := heap_alloc_new w1 _
          have S1 : (w1.alloc (.cells #[.int .u64 j, .int .u64 0] 33)).cell? ⟨B, 1, none⟩ = some (.map (some Pm)) ∧ (w1.alloc (.cells #[.int .u64 j, .int .u64 0] 33)).cell? ⟨w1.heap.size, 0, none⟩ = some (.int .u64 j) ∧ (w1.alloc (.cells #[.int .u64 j, .int .u64 0] 33)).cell? ⟨w1.heap.size, 1, none⟩ = some (.int .u64 0) :=
            ⟨(World.cell?_of_block (w := w1) (a := ⟨B, 1, none⟩) (Below.heap_alloc _ _ _ hBw)).trans hB1, (cell_of_row _ _ _ _ _ _ hN).trans rfl, (cell_of_row _ _ _ _ _ _ hN).trans rfl⟩
          have S4 := threeP (hw4 B hBP) (hw4 w1.heap.size (by omega)) S1
          have HSZ2 : Hid (w1.heap.size = wr.heap.size) := hsz
          clear hw4 hN hsz HBT HB1
          go_upto_region 16 with fail
          go_region_held3 (fun w' => w'.cell? ⟨B, 1, none⟩ = some (.map (some Pm)) ∧ w'.cell? ⟨w1.heap.size, 0, none⟩ = some (.int .u64 j) ∧ w'.cell? ⟨w1.heap.size, 1, none⟩ = some (.int .u64 0)) (first | assumption | go_keep) (fail)
          all_goals
            go_wp2_with fail
            go_roundg cnt'
            case rel => exact HU4
            case measure => exact hlt
    · obtain ⟨d, hd4, rfl, hL', rfl⟩ := hq.out.dirs.key_is hm
      have hr := round_facts hp.out hq.out hsep.out hj HG.out hgr hsz hws hd4
      obtain ⟨cB, hDw, hS⟩ := hr
      have hcB : w1.cell? ⟨B, 0, none⟩ = some (.map (some M)) := cB
      have hBl : B < w1.heap.size := World.block_lt_of_cell? _ _ cB
      have hlook : ∀ q, (Instr.lookup 37 (.map (some M)) (.agg #[.int .u64 0, .int .u64 d]) false).run Yba.prog ((w1.alloc (.cells #[.int .u64 0, .int .u64 d] 33)).drewN q) = .ok (U d) ((w1.alloc (.cells #[.int .u64 0, .int .u64 d] 33)).drewN q) := fun q => by
        have := ((hDw.alloc (.cells #[.int .u64 0, .int .u64 d] 33)).map.of_block (w' := (w1.alloc (.cells #[.int .u64 0, .int .u64 d] 33)).drewN q) rfl).look keyed33 (t := 37) Yba.underlying37 (zero29 _) hkey
        rw [hDw.value hd4] at this
        exact this
      have HSZ : Hid (w1.heap.size = wr.heap.size) := hsz
      clear cB q0 hsz
      obtain ⟨av, lv, cv, hUd⟩ : ∃ av lv cv, U d = .slice av lv cv := by
        obtain ⟨_, h0 | ⟨g, cap, cur, h0, _⟩⟩ := hDw.own d hd4
        · exact ⟨_, _, _, h0.1⟩
        · exact ⟨_, _, _, h0⟩
      rw [hUd] at hlook
      obtain ⟨aq, cq, hVq, hSc⟩ := hS
      obtain ⟨gq, oq, rfl, hgq, hSc⟩ := hSc (List.length_pos_iff.2 hL')
      rw [hVq] at hnrun hen
      go_upto_region 7 with fail
      go_quiet (fail)
      go_upto_region 9 with fail
      obtain ⟨x, r, hxr⟩ := List.exists_cons_of_ne_nil hL'
      obtain ⟨b, hb⟩ : ∃ b : Bool, b = match (K d).getLast? with | none => false | some y => y.like x := ⟨_, rfl⟩
      go_cut [62] from 22 to 90 (fun a wx => a = .bool b ∧ Hid (∃ q, wx = (w1.alloc (.cells #[.int .u64 0, .int .u64 d] 33)).drewN q))
      case first =>
        have HDw := (show Hid _ from hDw)
        clear hDw
        rcases List.eq_nil_or_concat (K d) with hKn | ⟨c, y, hKn⟩
        · have hU0 := (HDw.out.gone d hd4 hKn).2
          rw [hU0] at hUd
          obtain ⟨rfl, rfl, rfl⟩ : none = av ∧ 0 = lv ∧ 0 = cv := by injection hUd with a b c; exact ⟨a, b, c⟩
          have hb0 : b = false := by rw [hb, hKn]; rfl
          go_quiet (fail)
          go_wp2_with fail
          go_meet
          exact ⟨by rw [hb0], show ∃ q, _ = _ from ⟨_, by rw [World.drewN_drewN]⟩⟩
        · rw [List.concat_eq_append] at hKn
          have hbl : b = y.like x := by rw [hb, hKn]; simp
          have HO := HDw.out.own d hd4
          rw [hKn, hUd] at HO
          obtain ⟨g, cap, hg, hg1, hg2⟩ := HO.form (by simp)
          obtain ⟨rfl, hlv, rfl⟩ : av = some ⟨g, 0, none⟩ ∧ lv = (c ++ [y]).length ∧ cv = cap := by injection hg with a b c; exact ⟨a, b, c⟩
          rw [hlv] at HO
          rw [List.length_append, List.length_singleton] at hlv
          have hy : ∀ k, k < 7 → w1.cell? ⟨g, c.length * 7 + k, none⟩ = y.v[k]? := fun k hk => by
            have hlt : c.length * 7 + k < (c ++ [y]).length * 7 := by simp; omega
            refine (HO.cellAt _ hlt).trans ?_
            rw [flat_get _ _ _ (by simp) hk]
            simp
          have hy2 : w1.cell? ⟨g, c.length * 7 + 2, none⟩ = some (.string (nmS y.nm)) := hy 2 (by omega)
          have hy3 : w1.cell? ⟨g, c.length * 7 + 3, none⟩ = some (.int .u64 0) := hy 3 (by omega)
          have hy4 : w1.cell? ⟨g, c.length * 7 + 4, none⟩ = some (.int .u64 y.par) := hy 4 (by omega)
          have hx : ∀ k, k < 7 → w1.cell? ⟨gq, oq + k, none⟩ = x.v[k]? := fun k hk => by
            have := hSc 0 (by rw [hxr]; simp) k hk
            simp only [hxr] at this
            simpa using this
          have hx2 : w1.cell? ⟨gq, oq + 2, none⟩ = some (.string (nmS x.nm)) := hx 2 (by omega)
          have hx3 : w1.cell? ⟨gq, oq + 3, none⟩ = some (.int .u64 0) := hx 3 (by omega)
          have hx4 : w1.cell? ⟨gq, oq + 4, none⟩ = some (.int .u64 x.par) := hx 4 (by omega)
          have hlen : (L' d).length = r.length + 1 := by rw [hxr]; rfl
          have hcl : c.length < 4096 := by
            have h1 := (hLn.out d).1
            rw [← (hj.tail d hd4).1 htodo, hKn] at h1
            simp at h1
            omega
          have hq0 : 0 < (L' d).length := by omega
          obtain ⟨j, hj0⟩ : ∃ j, c.length = j := ⟨_, rfl⟩
          rw [hj0] at hlv hcl hy2 hy3 hy4
          have hjl : j < lv := by omega
          have hl0 : 0 < lv := by omega
          have hsub : IntKind.i64.wrap ((lv : Int) - 1) = (j : Int) := by rw [IntWalk.i64_in _ (by omega)]; omega
          have HLV : Hid (lv = j + 1) := hlv
          clear hSc hy hx HO hlv hj0 hKn hlen hb hg
          have hbl' : b = (((nmS y.nm).toList == (nmS x.nm).toList) && (y.par == x.par)) := hbl
          have he33 := eql33 y.par x.par
          cases hn1 : ((nmS y.nm).toList == (nmS x.nm).toList)
          · go_quiet (fail)
            go_wp2_with fail
            go_meet
            exact ⟨by rw [hbl', hn1]; rfl, show ∃ q, _ = _ from ⟨_, by rw [World.drewN_drewN]⟩⟩
          · go_quiet (fail)
            go_wp2_with fail
            go_meet
            exact ⟨by rw [hbl', hn1]; rfl, show ∃ q, _ = _ from ⟨_, by rw [World.drewN_drewN]⟩⟩
      case rest =>
        obtain ⟨rfl, hqc⟩ := hcut
        have HQ := hq.out
        have HP := hp.out
        have o1 := HP.o1
        have o2 := HP.o2
        have o3 := HP.o3
        have hM1 : M + 1 ≤ w1.heap.size := hDw.size
        have HM0 : Hid (Mid lo B M w1.heap.size d w1 wc (.slice av lv cv) (K d ++ L' d) (K d) (L' d) gq oq) := by
          obtain ⟨q, rfl⟩ := hqc.out
          have hob : ∀ k, k < w1.heap.size → ((w1.alloc (.cells #[.int .u64 0, .int .u64 d] 33)).drewN q).heap[k]? = w1.heap[k]? := fun k hk => Below.heap_alloc _ _ _ hk
          have hN : ((w1.alloc (.cells #[.int .u64 0, .int .u64 d] 33)).drewN q).heap[w1.heap.size]? = some (.cells #[.int .u64 0, .int .u64 d] 33) := heap_alloc_new w1 _
          have hO := hDw.own d hd4
          rw [hUd] at hO
          refine ⟨(World.cell?_of_block (w := w1) (a := ⟨B, 0, none⟩) (hob B hBl)).trans hcB, (cell_of_row _ _ _ _ _ _ hN).trans rfl, (cell_of_row _ _ _ _ _ _ hN).trans rfl, owns_of hO (fun g hg => hob g (own_lt hO g hg)), fun k hk _ => hob k hk, by simp, ?_, fun i hi k hk => (World.cell?_of_block (w := w1) (a := ⟨gq, _, none⟩) (hob gq hgq)).trans (hSc i hi k hk), rfl⟩
          have hbb := (Below.refl lo w1).alloc (by omega) (.cells #[.int .u64 0, .int .u64 d] 33)
          exact ⟨hbb.os, hbb.tape, hbb.output, hbb.size, hbb.block⟩
        clear HQ HP
        go_upto_if 62 with fail
        go_cut [9] from 22 to 90 (fun a wx => ∃ gr off rest base cr, a = .slice (some ⟨gr, off, none⟩) (List.length rest) cr ∧ Hid (Mid lo B M w1.heap.size d w1 wx (.slice av lv cv) (mergeL (K d) (L' d)) base rest gr off))
        case first =>
          cases b
          · go_wp2_with fail
            go_meet
            refine ⟨gq, oq, L' d, K d, cq, rfl, ?_⟩
            have : mergeL (K d) (L' d) = K d ++ L' d := by
              rw [hxr]
              rcases List.eq_nil_or_concat (K d) with hKn | ⟨c, y, hKn⟩
              · rw [hKn, mergeL_nil]; rfl
              · rw [List.concat_eq_append] at hKn
                rw [hKn] at hb ⊢
                rw [mergeL_other]
                simpa using hb.symm
            rw [this]
            exact HM0
          · obtain ⟨c, y, hKn⟩ : ∃ c y, K d = c ++ [y] := by
              rcases List.eq_nil_or_concat (K d) with hKn | ⟨c, y, hKn⟩
              · rw [hKn] at hb; cases hb
              · exact ⟨c, y, by rw [hKn, List.concat_eq_append]⟩
            have hlike : y.like x = true := by rw [hKn] at hb; simpa using hb.symm
            rw [hKn, hxr] at HM0
            have HO := HM0.out.own
            obtain ⟨g, cap, hg, hg1, hg2⟩ := HO.form (by simp)
            obtain ⟨rfl, hlv, rfl⟩ : av = some ⟨g, 0, none⟩ ∧ lv = (c ++ [y]).length ∧ cv = cap := by injection hg with a b c; exact ⟨a, b, c⟩
            rw [hlv] at HO
            rw [List.length_append, List.length_singleton] at hlv
            have hy : ∀ k, k < 7 → wc.cell? ⟨g, c.length * 7 + k, none⟩ = y.v[k]? := fun k hk => by
              have hlt : c.length * 7 + k < (c ++ [y]).length * 7 := by simp; omega
              refine (HO.cellAt _ hlt).trans ?_
              rw [flat_get _ _ _ (by simp) hk]
              simp
            have hy1 : wc.cell? ⟨g, c.length * 7 + 1, none⟩ = some (.int .i64 y.l) := hy 1 (by omega)
            have hy6 : wc.cell? ⟨g, c.length * 7 + 6, none⟩ = some (.bool y.rn) := hy 6 (by omega)
            have hf := owns_frozen HO
            have hx1 : wc.cell? ⟨gq, oq + 1, none⟩ = some (.int .i64 x.l) := HM0.out.news 0 (by simp) 1 (by omega)
            have hx6 : wc.cell? ⟨gq, oq + 6, none⟩ = some (.bool x.rn) := HM0.out.news 0 (by simp) 6 (by omega)
            have hVg : (V' d).ownBlock = some gq := by rw [hVq]; rfl
            have q1 := own_ge (hq.out.dirs.own d hd4) gq hVg
            have q2 := own_lt (hq.out.dirs.own d hd4) gq hVg
            have q3 := hq.out.o1
            have hUg : (U d).ownBlock = some g := by rw [hUd]; rfl
            have hgne : gq ≠ g := by
              rcases hj.rows d hd4 g hUg with ⟨e, he, hv⟩ | hv
              · have := hsep.out.2 e he g hv
                omega
              · omega
            have hgw : g < w1.heap.size := own_lt (hDw.own d hd4) g hUg
            have hBg : B ≠ g := fun e => by
              rcases hj.rows d hd4 g hUg with ⟨f, hf, hv⟩ | hv
              · exact (hp.out.rows f hf g hv).2 e.symm
              · have := hp.out.o4
                omega
            have hcq : (L' d).length ≤ cq := by
              obtain ⟨_, h0 | ⟨g', cap', cur, h0, _, _, h1, _⟩⟩ := hq.out.dirs.own d hd4
              · rw [hVq] at h0; cases h0.1
              · rw [hVq] at h0
                injection h0 with _ _ h0
                omega
            have hlen : (L' d).length = r.length + 1 := by rw [hxr]; rfl
            have hcl : c.length < 4096 := by
              have h1 := (hLn.out d).1
              rw [← (hj.tail d hd4).1 htodo, hKn] at h1
              simp at h1
              omega
            have hrl : r.length < 4096 := by
              have h1 := (hLn.out d).2
              omega
            obtain ⟨j, hj0⟩ : ∃ j, c.length = j := ⟨_, rfl⟩
            rw [hj0] at hlv hcl hy1 hy6
            have hjl : j < lv := by omega
            have hl0 : 0 < lv := by omega
            have hq0 : 0 < (L' d).length := by omega
            have hsub : IntKind.i64.wrap ((lv : Int) - 1) = (j : Int) := by rw [IntWalk.i64_in _ (by omega)]; omega
            have HLV : Hid (lv = j + 1) := hlv
            have HJ0 : Hid (c.length = j) := hj0
            have HXR : Hid (L' d = x :: r) := hxr
            have HLN : Hid ((L' d).length = r.length + 1) := hlen
            generalize (L' d).length = lq at hq0 hcq HLN ⊢
            have hset : ∀ (u : World) (k : Nat) (v : Value) (o : Nat), (u.setCell ⟨g, k, none⟩ v).cell? ⟨gq, o, none⟩ = u.cell? ⟨gq, o, none⟩ := fun u k v o => World.cell?_of_block (w := u) (a := ⟨gq, o, none⟩) (setCell_other u v hgne)
            clear hlv hj0 hlen hb hg HO hy hSc hxr
            go_upto_region 10 with fail
            go_region_held3 (fun w' => w'.cell? ⟨gq, oq + 1, none⟩ = some (.int .i64 x.l) ∧ w'.cell? ⟨gq, oq + 6, none⟩ = some (.bool x.rn)) (first | assumption | go_keep) (fail)
            have e := HM0.out.onto (by rw [HJ0.out]; exact HLV.out) hBg (by omega) hgne (by omega)
            rw [HJ0.out] at e
            have HE : Hid (Mid lo B M w1.heap.size d w1 ((wc.setCell ⟨g, j * 7 + 1, none⟩ (.int .i64 x.l)).setCell ⟨g, j * 7 + 6, none⟩ (.bool x.rn)).drew (.slice (some ⟨g, 0, none⟩) lv cv) (mergeL (K d) (L' d)) (c ++ [y.onto x]) r gq (oq + 7)) := by
              rw [hKn, HXR.out, mergeL_like c y x r hlike]
              exact e
            have hrq : r.length = lq - 1 := by have := HLN.out; omega
            clear e
            by_cases hc1 : cq = 1
            · go_wp2_with fail
              go_meet
              refine ⟨gq, oq, r, c ++ [y.onto x], cq - 1, ?_, HE.out.away (by omega)⟩
              rw [hrq, hc1]
            · go_wp2_with fail
              go_meet
              refine ⟨gq, oq + 7, r, c ++ [y.onto x], cq - 1, ?_, HE⟩
              rw [hrq]
        case rest =>
          obtain ⟨gr, off, rest, base, cr, rfl, HM⟩ := hcut
          have cB := HM.out.cB
          have c0 := HM.out.c0
          have c1 := HM.out.c1
          obtain ⟨i0, hi, hz0, hz1, hz2⟩ := info_parts info35
          have hsum := congrArg List.length HM.out.sum
          rw [List.length_append] at hsum
          have hbl : base.length + rest.length ≤ 2048 := by
            have h1 := mergeL_len (K d) (L' d)
            have h2 := hLn.out d
            rw [(hj.tail d hd4).1 htodo] at h1 hsum
            omega
          clear hsum
          have hs' : s' ≤ 4 := by
            have := hq.out.dirs.cnt
            rw [this]
            split <;> split <;> split <;> split <;> omega
          have HUd : Hid (U d = .slice av lv cv) := hUd
          have hBU : Hid ((Value.slice av lv cv).ownBlock ≠ some B) := fun e => by
            rw [← hUd] at e
            rcases hj.rows d hd4 B e with ⟨f, hf, hv⟩ | hv
            · exact (hp.out.rows f hf B hv).2 rfl
            · have := hp.out.o4
              omega
          have hAU : Hid ((Value.slice av lv cv).ownBlock ≠ some w1.heap.size) := fun e => by
            rw [← hUd] at e
            have := own_lt (hDw.own d hd4) _ e
            omega
          have hBM : Hid (B ≠ M) := by show B ≠ M; omega
          have hAM : Hid (w1.heap.size ≠ M) := by show w1.heap.size ≠ M; omega
          clear hUd hcB hSc
          go_upto_region 12 with fail
          go_region_held3 (fun w' => w'.cell? ⟨B, 0, none⟩ = some (.map (some M)) ∧ w'.cell? ⟨w1.heap.size, 0, none⟩ = some (.int .u64 0) ∧ w'.cell? ⟨w1.heap.size, 1, none⟩ = some (.int .u64 d)) (first | assumption | go_keep)
            (first
              | (refine step_append_at rfl (.tmp 88) (.tmp 89) 29 rfl (M + 1) 35 i0 _ 7 56 Yba.underlying29 hi hz0 hz1 hz2 rfl (by decide) (.slice av lv cv) base.length (flat base) (by first | rfl | simp [Act.eval]) HM.out.own ⟨gr, off, none⟩ rest.length cr (flat rest) (by first | rfl | simp [Act.eval]) (flat_length rest) (flat_news HM.out.news) (flat_one rest) (by unfold maxLen; omega) (by omega) (Nat.le_trans hM1 HM.out.size) ?_
                 intro vr w3 hown3 hgrow3 hloc3
                 have e := HM.out.sum
                 rw [(hj.tail d hd4).1 htodo] at e
                 have hg4 : wc.drew.grownBy w3 (U d).ownBlock := by rw [HUd.out]; exact hgrow3
                 obtain ⟨w4, hrunS, hw4, HJ4⟩ := join_store (Wx := wc.drew) hp.out hq.out hsep.out hlo hj hgr HSZ.out hws hd4 hDw hrg hlt hcnt (by unfold maxLen; omega) (by rw [HUd.out]; exact HM.out.kept) HM.out.size HM.out.below.drew e (by rw [e]; exact mergeL_ne _ _ hL') (by rw [List.length_append, flat_append]; exact hown3) hg4 (by rw [HUd.out]; exact hloc3)
                 have S3 := three (hgrow3.block B (by have := HM.out.size; show B < wc.heap.size; omega) (fun e => hBU.out e.symm)) (hgrow3.block w1.heap.size (World.block_lt_of_cell? _ _ c0) (fun e => hAU.out e.symm)) ⟨cB, c0, c1⟩
                 have S4 := three (hw4 B hBM.out) (hw4 w1.heap.size hAM.out) S3
                 clear e hg4 hw4 hown3 hgrow3 hloc3))
          all_goals
            go_wp2_with fail
            go_roundg cnt'
            case rel => exact HJ4
            case measure => exact hlt
end Go.Proofs.Ybulkakms
