import Derived.Test.YbulkakoiDoorChoice4
import Derived.Deep.DeepCutAuto
namespace Go.Proofs.YbulkakoiDoor
open Go.RowKit Go.Maps

set_option maxHeartbeats 10000000 in
set_option maxRecDepth 100000 in
theorem choice_any (ko xo : Option Addr) (nk nc kcap ccap : Nat) (kc kn : Nat → Int) (cb : Nat → Bool) (pick cl num : Int) (w : World) (hp0 : 0 ≤ pick) (hp1 : pick ≤ 255) (hc0 : 0 ≤ cl) (hc1 : cl ≤ 255) (hn0 : 0 ≤ num) (hn1 : num ≤ 4294967295)
    (hK : Hid (KeysAt w ko nk kc kn)) (hX : Hid (BoolsAt w xo nc cb)) (hnk : nk ≤ 1024) (hnc : nc ≤ 1024) :
    Calls Ybad.prog 6 #[.slice ko nk kcap, .slice xo nc ccap, .int .u8 pick, .int .u8 cl, .int .u32 num] w fun e w' => e = .returned (.bool true) ∧ Below w.heap.size w w' := by
  obtain ⟨i0, hi, hz0, hz1, hz2⟩ := info_parts info68
  obtain ⟨i1, hi1, hy0, hy1, hy2⟩ := info_parts info49
  have hmm := @run_makeMap Ybad.prog
  go_enter Ybad.func6, Ybad.ntmps6
  go_wp2_with (at_make; refine wpList_make_full _ rfl _ _ 49 rfl w.heap.size 68 i0 (.pointer none) 1 Ybad.underlying49 hi hz0 hz1 _ _ _ _ nk rfl rfl rfl rfl (by rw [hz2]; omega) (by unfold maxLen; omega) (by simp; omega) ?_; intro w1 hown hgrow)
  have hstart : Hid (BuiltE w w1 w.heap.size (w.heap.size + 1) (w.heap.size + 1 + 1) nk 0 kc kn) := ⟨_, _, _, built_start rfl rfl rfl (by simpa [Value.cells] using hown) hgrow⟩
  clear hown hgrow hmm
  generalize w.heap.size + 1 + 1 = Q at hstart ⊢
  generalize w.heap.size + 1 = T at hstart ⊢
  go_loopw [43] (fun iv wr => ∃ i : Nat, i ≤ nk ∧ iv = .int .i64 i ∧ Hid (BuiltE w wr w.heap.size T Q nk i kc kn)) (fun iv _ => nk - (intOf iv).toNat)
  case atStart => exact ⟨0, Nat.zero_le _, rfl, hstart⟩
  case round =>
    clear hstart
    obtain ⟨i, hin, rfl, hB⟩ := hrel
    by_cases hlt : i < nk
    · obtain ⟨kb, off, rfl, hkb, hcells⟩ := hK.out (by omega)
      obtain ⟨k0, k1, k2, k3, hk0, hk1⟩ := hcells i hlt
      obtain ⟨s, pa, ga, hb⟩ := hB.out
      have HB : Hid (Built w wr w.heap.size T Q nk i s kc kn pa ga) := hb
      have hm1 := hb.m1
      have hm2 := hb.m2
      have hm3 := hb.m3
      have hk0' : wr.cell? ⟨kb, off + i * 2, none⟩ = some (.int .u8 (kc i)) := (hb.below.cell (p := ⟨kb, off + i * 2, none⟩) hkb).trans hk0
      have hk1' : wr.cell? ⟨kb, off + i * 2 + 1, none⟩ = some (.int .u32 (kn i)) := (hb.below.cell (p := ⟨kb, off + i * 2 + 1, none⟩) hkb).trans hk1
      have hkb' : kb < wr.heap.size := by omega
      have q0 := hb.tab.cell i hlt
      rw [if_neg (by omega)] at q0
      have q1 := hb.tab.free i hlt
      have hr := hb.r
      clear hcells hk0 hk1 hb hB
      go_wp2_with fail
      generalize hO1 : (Obj.cells #[Value.int IntKind.u8 (kc i), Value.int IntKind.u32 (kn i)] 67) = O1
      generalize hO2 : (Obj.cells _ 70) = O2
      obtain ⟨fw, hrun, hfw⟩ := built_step HB.out hlt hnk k2 k3 O1 O2 (.cells #[.pointer (some ⟨wr.heap.size + 1, 0, none⟩)] 68) (fun u => World.cell?_alloc_at _ _ _ _ rfl)
      have hsW : ((((wr.setCell ⟨Q, i, none⟩ (.pointer (some ⟨wr.heap.size + 1, 0, none⟩))).alloc O1).alloc O2)).heap.size = wr.heap.size + 2 := by simp
      have d9 : ((((wr.setCell ⟨Q, i, none⟩ (.pointer (some ⟨wr.heap.size + 1, 0, none⟩))).alloc O1).alloc O2)).cell? ⟨T, 9, none⟩ = some (.map (some w.heap.size)) := by
        rw [World.cell?_alloc_past _ _ _ (by simp; omega), World.cell?_alloc_past _ _ _ (by simp; omega), World.cell?_setCell_other _ _ _ _ (by intro e2; injection e2 with e3 _; omega)]; exact hr
      have d0 : ((((wr.setCell ⟨Q, i, none⟩ (.pointer (some ⟨wr.heap.size + 1, 0, none⟩))).alloc O1).alloc O2)).cell? ⟨wr.heap.size, 0, none⟩ = some (.int .u8 (kc i)) := by
        rw [World.cell?_alloc_past _ _ _ (by simp), ← hO1, World.cell?_alloc_at _ _ _ _ (by simp)]; rfl
      have d1 : ((((wr.setCell ⟨Q, i, none⟩ (.pointer (some ⟨wr.heap.size + 1, 0, none⟩))).alloc O1).alloc O2)).cell? ⟨wr.heap.size, 1, none⟩ = some (.int .u32 (kn i)) := by
        rw [World.cell?_alloc_past _ _ _ (by simp), ← hO1, World.cell?_alloc_at _ _ _ _ (by simp)]; rfl
      generalize (((wr.setCell ⟨Q, i, none⟩ (.pointer (some ⟨wr.heap.size + 1, 0, none⟩))).alloc O1).alloc O2) = W at hrun hsW d9 d0 d1 ⊢
      have hrun1 : (Instr.mapUpdate 53 (.map (some w.heap.size)) (tagV ((kc i).tmod 4) (kn i)) (.slice (some ⟨wr.heap.size + 2, 0, none⟩) 1 1)).run Ybad.prog (W.alloc (.cells #[.pointer (some ⟨wr.heap.size + 1, 0, none⟩)] 68)).drew = .ok () (fw 1) := by
        rw [Int.tmod_eq_emod_of_nonneg k0]; exact hrun 1
      have d9' : (W.alloc (.cells #[.pointer (some ⟨wr.heap.size + 1, 0, none⟩)] 68)).cell? ⟨T, 9, none⟩ = some (.map (some w.heap.size)) := (World.cell?_alloc_past _ _ _ (by omega)).trans d9
      have d0' : (W.alloc (.cells #[.pointer (some ⟨wr.heap.size + 1, 0, none⟩)] 68)).cell? ⟨wr.heap.size, 0, none⟩ = some (.int .u8 (kc i)) := (World.cell?_alloc_past _ _ _ (by omega)).trans d0
      have d1' : (W.alloc (.cells #[.pointer (some ⟨wr.heap.size + 1, 0, none⟩)] 68)).cell? ⟨wr.heap.size, 1, none⟩ = some (.int .u32 (kn i)) := (World.cell?_alloc_past _ _ _ (by omega)).trans d1
      have HFW : Hid (∀ q, BuiltE w (fw q) w.heap.size T Q nk (i + 1) kc kn) := hfw
      clear hrun hfw hO1 hO2 hk0' hk1' q0 q1 hr HB
      go_region
      all_goals
        go_wp2
        go_roundw
        case rel => exact ⟨i + 1, by omega, by go_num, HFW.out _⟩
        case measure => simp [intOf]; omega
    · have e : nk = i := by omega
      subst e
      obtain ⟨va, rfl⟩ : ∃ va, va = wr := ⟨_, rfl⟩
      obtain ⟨s, pa, ga, hb⟩ := hB.out
      have HB : Hid (Built w va w.heap.size T Q nk nk s kc kn pa ga) := hb
      have hm1 := hb.m1
      have hm2 := hb.m2
      have hm3 := hb.m3
      have hTs : T < va.heap.size := by omega
      clear hb hB hlt
      go_upto_region 13 with (at_make; refine wpList_make_full _ rfl _ _ 49 rfl w.heap.size 68 i0 (.pointer none) 1 Ybad.underlying49 hi hz0 hz1 _ _ _ _ nc rfl rfl rfl rfl (by rw [hz2]; omega) (by unfold maxLen; omega) (by omega) ?_; intro v1 hown1 hgrow1)
      have l1 := ownsRow_lt hown1
      have s1 : va.heap.size ≤ v1.heap.size := ((Below.refl va.heap.size va).grown hgrow1 (Nat.le_refl _) (fun k hk => by cases hk)).size
      go_wp2_with (at_make; refine wpList_make_full _ rfl _ _ 52 rfl w.heap.size 49 i1 (.slice none 0 0) 1 Ybad.underlying52 hi1 hy0 hy1 _ _ _ _ nc rfl rfl rfl rfl (by rw [hy2]; omega) (by unfold maxLen; omega) (by omega) ?_; intro v2 hown2 hgrow2; obtain ⟨hctx, t8, t8f, tlt⟩ := ctx_start (cb := cb) HB.out hown1 hgrow1 hown2 hgrow2)
      have HC : Hid (CtxE w va (v2.setCell ⟨T, 8, none⟩ (.slice (some ⟨v1.heap.size, 0, none⟩) nc nc)) w.heap.size T va.heap.size v1.heap.size nc 0 cb) := hctx
      clear hctx t8 t8f tlt hown1 hown2 hgrow1 hgrow2 l1 s1 hi1 hy0 hy1 hy2 hi hz0 hz1 hz2 hin
      generalize v1.heap.size = R at HC ⊢
      generalize va.heap.size = C at HC ⊢
      go_loopw [79] (fun jv wx => ∃ j : Nat, j ≤ nc ∧ jv = .int .i64 j ∧ Hid (CtxE w va wx w.heap.size T C R nc j cb)) (fun jv _ => nc - (intOf jv).toNat)
      case atStart => exact ⟨0, Nat.zero_le _, rfl, HC⟩
      case round =>
        clear HC
        obtain ⟨j, hjn, rfl, hC⟩ := hrel
        by_cases hlt : j < nc
        · obtain ⟨xb, off, rfl, hxb, hcells⟩ := hX.out (by omega)
          have hc0 := hcells j hlt
          obtain ⟨pc, gc, hc⟩ := hC.out
          have HC : Hid (Ctx w va wr w.heap.size T C R nc j cb pc gc) := hc
          have n1 := hc.m1
          have n2 := hc.m2
          have n3 := hc.m3
          have n4 := hc.m4
          have hbs := hc.below.size
          have hc1 : wr.cell? ⟨xb, off + j, none⟩ = some (.bool (cb j)) := (hc.below.cell (p := ⟨xb, off + j, none⟩) hxb).trans hc0
          have hxb' : xb < wr.heap.size := by omega
          have t8 := hc.c8
          have q0 := hc.tabC.cell j hlt
          have q1 := hc.tabC.free j hlt
          have r0 := hc.tabR.cell j hlt
          have r1 := hc.tabR.free j hlt
          simp only [Nat.lt_irrefl, decide_false, Bool.false_and, ptrAt, rowAt, Bool.false_eq_true, if_false] at q0 r0
          have n5 : T < wr.heap.size := by omega
          have n6 : C < wr.heap.size := by omega
          clear hcells hc0 hC hc
          by_cases hcb : cb j = true
          · rw [hcb] at hc1
            go_wp2
            go_roundw
            case rel => exact ⟨j + 1, by omega, by go_num, ctx_round HC.out hm1 hcb _⟩
            case measure => simp [intOf]; omega
          · rw [Bool.not_eq_true] at hcb
            rw [hcb] at hc1
            have HS : Hid (CtxE w va wr w.heap.size T C R nc (j + 1) cb) := ⟨_, _, ctx_skip HC.out hcb⟩
            clear HC
            go_wp2
            go_roundw
            case rel => exact ⟨j + 1, by omega, by go_num, HS⟩
            case measure => simp [intOf]; omega
        · have e : nc = j := by omega
          subst e
          obtain ⟨pc, gc, hc⟩ := hC.out
          obtain ⟨vb, rfl⟩ : ∃ vb, vb = wr := ⟨_, rfl⟩
          have hr := ready HB.out hc
          have HR : Hid (Ready w vb w.heap.size T Q C R nk nc s kc kn cb pa ga pc gc) := hr
          have m2 := hr.m2
          have hbs := hr.below.size
          clear hc hC hlt hr HB hX hm1 hm2 hm3 hTs hjn
          by_cases hp : pick % 2 = 1 ∧ 0 < nk
          case' pos =>
            obtain ⟨kb, off, rfl, hkb, hcells⟩ := hK.out (by omega)
            obtain ⟨x, hx⟩ : ∃ x : Nat, (pick / 2) % (nk : Int) = x := ⟨((pick / 2) % (nk : Int)).toNat, by have := Int.emod_nonneg (pick / 2) (b := (nk : Int)) (by omega); omega⟩
            have hxn : x < nk := by have := Int.emod_lt_of_pos (pick / 2) (b := (nk : Int)) (by omega); omega
            obtain ⟨k0, k1, k2, k3, hk0, hk1⟩ := hcells x hxn
            have hk0' : vb.cell? ⟨kb, off + x * 2, none⟩ = some (.int .u8 (kc x)) := (HR.out.below.cell (p := ⟨kb, off + x * 2, none⟩) hkb).trans hk0
            have hk1' : vb.cell? ⟨kb, off + x * 2 + 1, none⟩ = some (.int .u32 (kn x)) := (HR.out.below.cell (p := ⟨kb, off + x * 2 + 1, none⟩) hkb).trans hk1
            have hkb' : kb < vb.heap.size := by omega
            have p1 : (pick % 2 == 1) = true := by simp [hp.1]
            have p2 : decide (0 < (nk : Int)) = true := by simp; omega
            have p3 : 0 < nk := hp.2
            clear hcells hk0 hk1 hp
            go_wp2_with fail
            have hWb : Below vb.heap.size vb ((vb.alloc (.cells #[.int .u8 (kc x % 4), .int .u32 (kn x)] 41)).alloc (.cells #[.int .u8 (kc x), .int .u32 (kn x)] 67)) := ((Below.refl _ _).alloc (Nat.le_refl _) _).alloc (by simp) _
            have g0 : ((vb.alloc (.cells #[.int .u8 (kc x % 4), .int .u32 (kn x)] 41)).alloc (.cells #[.int .u8 (kc x), .int .u32 (kn x)] 67)).cell? ⟨vb.heap.size, 0, none⟩ = some (.int .u8 (kc x % 4)) := by simp
            have g1 : ((vb.alloc (.cells #[.int .u8 (kc x % 4), .int .u32 (kn x)] 41)).alloc (.cells #[.int .u8 (kc x), .int .u32 (kn x)] 67)).cell? ⟨vb.heap.size, 1, none⟩ = some (.int .u32 (kn x)) := by simp
            have gs : vb.heap.size < ((vb.alloc (.cells #[.int .u8 (kc x % 4), .int .u32 (kn x)] 41)).alloc (.cells #[.int .u8 (kc x), .int .u32 (kn x)] 67)).heap.size := by simp; omega
            have f0 : 0 ≤ kc x % 4 := by omega
            have f1 : kc x % 4 ≤ 255 := by omega
            generalize ((vb.alloc (.cells #[.int .u8 (kc x % 4), .int .u32 (kn x)] 41)).alloc (.cells #[.int .u8 (kc x), .int .u32 (kn x)] 67)) = W at hWb g0 g1 gs ⊢
            clear hk0' hk1' hx hxn p1 p2 p3 k0 k1 hkb
            generalize kc x % 4 = c at g0 f0 f1 ⊢
            generalize kn x = n at g1 k2 k3 ⊢
            generalize (some ({ block := kb, off := off } : Addr)) = ko at hK ⊢
            clear hkb'
          case' neg =>
            have p1 : ((pick % 2 == 1) = false ∨ ((pick % 2 == 1) = true ∧ nk = 0)) := by
              by_cases e : pick % 2 = 1
              · exact .inr ⟨by simp [e], by omega⟩
              · exact .inl (by simp [e])
            have k2 := hn0
            have k3 := hn1
            clear hp
            go_upto_region 23 with fail
            go_cut [113] from 106 to 112 (fun a wx => a = .bool false ∧ wx = vb.alloc (.cells #[.int .u8 (cl % 4), .int .u32 num] 41))
            case first =>
              rcases p1 with p1 | ⟨p1, rfl⟩
              all_goals
                go_wp2_with fail
                go_meet
                exact ⟨by simp, rfl⟩
            case' rest =>
              obtain ⟨rfl, rfl⟩ := hcut
              clear p1
              go_wp2_with fail
              have hWb : Below vb.heap.size vb (vb.alloc (.cells #[.int .u8 (cl % 4), .int .u32 num] 41)) := ((Below.refl _ _).alloc (Nat.le_refl _) _)
              have g0 : (vb.alloc (.cells #[.int .u8 (cl % 4), .int .u32 num] 41)).cell? ⟨vb.heap.size, 0, none⟩ = some (.int .u8 (cl % 4)) := by simp
              have g1 : (vb.alloc (.cells #[.int .u8 (cl % 4), .int .u32 num] 41)).cell? ⟨vb.heap.size, 1, none⟩ = some (.int .u32 num) := by simp
              have gs : vb.heap.size < (vb.alloc (.cells #[.int .u8 (cl % 4), .int .u32 num] 41)).heap.size := by simp
              have f0 : 0 ≤ cl % 4 := by omega
              have f1 : cl % 4 ≤ 255 := by omega
              generalize (vb.alloc (.cells #[.int .u8 (cl % 4), .int .u32 num] 41)) = W at hWb g0 g1 gs ⊢
              generalize hc4 : cl % 4 = c at g0 f0 f1 ⊢
              clear hc4 hn0 hn1
              generalize num = n at g1 k2 k3 ⊢
          all_goals
            have e1 := eql68_nil
            have e2 := eql68_some
            have e3 := eql49_nil
            have e4 := eql68_same
            have hQs := HR.out.m3
            have hCs := HR.out.m4
            by_cases hctx : c = 2 ∧ n < (nc : Int)
            · obtain ⟨rfl, hlt⟩ := hctx
              obtain ⟨x', rfl⟩ : ∃ x' : Nat, n = x' := ⟨n.toNat, by omega⟩
              have hxn : x' < nc := by omega
              have hm := match_ctx HR.out hWb hnc x' hxn
              by_cases hcb : cb x' = true
              · rw [hcb] at hm
                refine (show Calls Ybad.prog 11 #[.pointer (some ⟨T, 0, none⟩), tagV 2 x'] W fun e w' => e = .returned (.tuple #[.slice (some ⟨gc x', 0, none⟩) 1 1, .bool true]) ∧ Below W.heap.size W w' from hm).mono ?_
                rintro e W2 ⟨rfl, hb2⟩
                have hB2 : Below vb.heap.size vb W2 := hWb.trans (hb2.mono (by omega))
                have c0 := (hb2.cell (p := ⟨vb.heap.size, 0, none⟩) gs).trans g0
                have c1 := (hb2.cell (p := ⟨vb.heap.size, 1, none⟩) gs).trans g1
                have cC : W2.cell? ⟨C, x', none⟩ = some (.pointer (some ⟨pc x', 0, none⟩)) := by
                  rw [hB2.cell (p := ⟨C, x', none⟩) hCs, HR.out.tabC.cell x' hxn, hcb]; rfl
                have hG := HR.out.oneC x' hxn hcb
                have cG : W2.cell? ⟨gc x', 0, none⟩ = some (.pointer (some ⟨pc x', 0, none⟩)) := (hB2.cell (p := ⟨gc x', 0, none⟩) hG.2).trans hG.1
                have hfin : Hid (Below w.heap.size w W2) := HR.out.below.trans (hB2.mono hbs)
                clear hm hB2 hG g0 g1 hb2 hWb
                go_wp2
                go_ret
                exact ⟨by simp, hfin.out⟩
              · rw [Bool.not_eq_true] at hcb
                rw [hcb] at hm
                refine (show Calls Ybad.prog 11 #[.pointer (some ⟨T, 0, none⟩), tagV 2 x'] W fun e w' => e = .returned (.tuple #[.slice none 0 0, .bool false]) ∧ Below W.heap.size W w' from hm).mono ?_
                rintro e W2 ⟨rfl, hb2⟩
                have hB2 : Below vb.heap.size vb W2 := hWb.trans (hb2.mono (by omega))
                have c0 := (hb2.cell (p := ⟨vb.heap.size, 0, none⟩) gs).trans g0
                have c1 := (hb2.cell (p := ⟨vb.heap.size, 1, none⟩) gs).trans g1
                have cC : W2.cell? ⟨C, x', none⟩ = some (.pointer none) := by
                  rw [hB2.cell (p := ⟨C, x', none⟩) hCs, HR.out.tabC.cell x' hxn, hcb]; rfl
                have hfin : Hid (Below w.heap.size w W2) := HR.out.below.trans (hB2.mono hbs)
                clear hm hB2 g0 g1 hb2 hWb
                go_wp2
                go_ret
                exact ⟨by simp, hfin.out⟩
            · have hguard : ((c == 2) = false) ∨ ((c == 2) = true ∧ decide (n < (nc : Int)) = false) := by
                by_cases e : c = 2
                · exact .inr ⟨by simp [e], by simp only [decide_eq_false_iff_not]; exact fun h => hctx ⟨e, h⟩⟩
                · exact .inl (by simp [e])
              have hm := match_map HR.out hWb c n f0 f1 k2 k3 hctx
              have HS : Hid (MapSays (lastK kc kn c n nk) ga (rowO (lastK kc kn c n nk) ga) (notNil (rowO (lastK kc kn c n nk) ga))) := mapSays _ _
              generalize notNil (rowO (lastK kc kn c n nk) ga) = okb at HS hm
              generalize rowO (lastK kc kn c n nk) ga = rv at HS hm
              refine hm.mono ?_
              clear hm
              rintro e W2 ⟨rfl, hb2⟩
              have hB2 : Below vb.heap.size vb W2 := hWb.trans (hb2.mono (by omega))
              have c0 := (hb2.cell (p := ⟨vb.heap.size, 0, none⟩) gs).trans g0
              have c1 := (hb2.cell (p := ⟨vb.heap.size, 1, none⟩) gs).trans g1
              have HB2 : Hid (Below vb.heap.size vb W2) := hB2
              have gs2 : vb.heap.size < W2.heap.size := Nat.lt_of_lt_of_le gs hb2.size
              clear hB2 g0 g1 hb2 hWb hctx gs
              have hK2 := hK.out
              have e5 := eql41
              go_upto_region 28 with fail
              go_cut [146] from 135 to 145 (fun a wx => a = .bool false ∧ wx = W2)
              case first =>
                rcases hguard with hg | ⟨hg, hg2⟩
                all_goals
                  go_wp2_with fail
                  go_meet
                  exact ⟨by simp, rfl⟩
              case rest =>
                obtain ⟨rfl, rfl⟩ := hcut
                obtain ⟨W3, rfl⟩ : ∃ W3, W3 = wc := ⟨_, rfl⟩
                clear hguard
                go_wp2
                go_loopg [24, 25] nk (fun g v iv wr => ∃ (i : Nat) (z : Int), v = .pointer none ∧ iv = .int .i64 z ∧ Hid (g = i) ∧ Hid (z = (i : Int) - 1) ∧ Hid (i ≤ nk) ∧ Hid (∀ l, i ≤ l → l < nk → ¬ (kc l % 4 = c ∧ kn l = n)) ∧ Hid (Below W3.heap.size W3 wr))
                case atStart => exact ⟨nk, (nk : Int) - 1, rfl, rfl, rfl, rfl, Nat.le_refl _, fun l h1 h2 => by omega, Below.refl _ _⟩
                case round =>
                  obtain ⟨i, z, rfl, rfl, hg, hz, hin, hno, hBr⟩ := hrel
                  have hz' := hz.out
                  have hin' := hin.out
                  have d0 := (hBr.out.cell (p := ⟨vb.heap.size, 0, none⟩) gs2).trans c0
                  have d1 := (hBr.out.cell (p := ⟨vb.heap.size, 1, none⟩) gs2).trans c1
                  have ds : vb.heap.size < wr.heap.size := Nat.lt_of_lt_of_le gs2 hBr.out.size
                  have HBv : Hid (Below vb.heap.size vb wr) := HB2.out.trans (hBr.out.mono (by omega))
                  have hfin : Hid (Below w.heap.size w wr) := HR.out.below.trans (HBv.out.mono hbs)
                  clear hz hin
                  cases i with
                  | zero =>
                    obtain rfl : z = -1 := by omega
                    obtain ⟨rfl, rfl⟩ := HS.out.2 (lastK_no (fun l hl => hno.out l (Nat.zero_le _) hl))
                    clear hz' hin' d0 d1 hK2
                    go_wp2
                    go_ret
                    exact ⟨by simp, hfin.out⟩
                  | succ m =>
                    obtain rfl : z = (m : Int) := by omega
                    obtain ⟨kb', off', he, hkb', hcells⟩ := hK2 (by omega)
                    subst he
                    have hmn : m < nk := by omega
                    obtain ⟨q0, q1, q2, q3, hk0, hk1⟩ := hcells m hmn
                    have hkb2 : kb' < wr.heap.size := by omega
                    have hk0' := (hfin.out.cell (p := ⟨kb', off' + m * 2, none⟩) hkb').trans hk0
                    have hk1' := (hfin.out.cell (p := ⟨kb', off' + m * 2 + 1, none⟩) hkb').trans hk1
                    clear hcells hk0 hk1 hz' hin' hK2
                    go_upto_region 33 with fail
                    go_cut [26] from 155 to 177 (fun a wx => a = .pointer (some ⟨wr.heap.size, 0, none⟩) ∧ Hid (Below wr.heap.size wr wx) ∧ wx.cell? ⟨wr.heap.size, 0, none⟩ = some (.int .u8 (kc m % 4)) ∧ wx.cell? ⟨wr.heap.size, 1, none⟩ = some (.int .u32 (kn m)) ∧ wr.heap.size < wx.heap.size)
                    case first =>
                      go_region
                      all_goals
                        go_wp2_with fail
                        go_meet
                        exact ⟨rfl, tag_made _ _ _⟩
                    case rest =>
                      obtain ⟨rfl, hbx, x0, x1, xs⟩ := hcut
                      have y0 := (hbx.out.cell (p := ⟨vb.heap.size, 0, none⟩) ds).trans d0
                      have y1 := (hbx.out.cell (p := ⟨vb.heap.size, 1, none⟩) ds).trans d1
                      have HBx : Hid (Below vb.heap.size vb wc) := HBv.out.trans (hbx.out.mono (by omega))
                      have hfin2 : Hid (Below w.heap.size w wc) := HR.out.below.trans (HBx.out.mono hbs)
                      have HB3 : Hid (Below W3.heap.size W3 wc) := hBr.out.trans (hbx.out.mono hBr.out.size)
                      clear d0 d1 hk0' hk1' hfin HBv
                      by_cases hmt : kc m % 4 = c ∧ kn m = n
                      · have hl : lastK kc kn c n nk = some m := lastK_is hmn hmt.1 hmt.2 (fun l a b => hno.out l (by omega) b)
                        obtain ⟨rfl, rfl⟩ := HS.out.1 m hl
                        have t1 : (kc m % 4 == c) = true := by simp [hmt.1]
                        have t2 : (kn m == n) = true := by simp [hmt.2]
                        have cQ : wc.cell? ⟨Q, m, none⟩ = some (.pointer (some ⟨pa m, 0, none⟩)) := (HBx.out.cell (p := ⟨Q, m, none⟩) hQs).trans (HR.out.tab.cell m hmn)
                        have hG := HR.out.one m hmn
                        have cG : wc.cell? ⟨ga m, 0, none⟩ = some (.pointer (some ⟨pa m, 0, none⟩)) := (HBx.out.cell (p := ⟨ga m, 0, none⟩) hG.2).trans hG.1
                        clear hmt hl hG
                        go_wp2
                        go_ret
                        exact ⟨by simp, hfin2.out⟩
                      · have HM : Hid (¬ (kc m % 4 = c ∧ kn m = n)) := hmt
                        have ht : (kc m % 4 == c && kn m == n) = false := by simpa using hmt
                        clear hmt
                        go_wp2
                        go_roundg m
                        case measure => have := hg.out; omega
                        case rel => exact ⟨m, (m : Int) - 1, rfl, rfl, rfl, rfl, by show m ≤ nk; omega, fun l h1 h2 => by
                          by_cases e : l = m
                          · subst e; exact HM.out
                          · exact hno.out l (by omega) h2, HB3⟩
end Go.Proofs.YbulkakoiDoor
