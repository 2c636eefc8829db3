import Derived.Test.YbulkaknuTab
import Derived.Test.YbulkaknuProg
import Derived.Deep.LoopGhost
namespace Go.Proofs.Ybulkaknu
open Go.RowKit

theorem Yba.info5 : (Yba.prog.info? 5).map (fun i => (i.zero, i.size, i.bytes)) = some (some (.int .u8 0), 1, 1) := by kernel_rfl

/-- a table of states. -/
abbrev States (w : World) (b n : Nat) (st : Nat → Nat) : Prop := Tab w b n (fun y => .int .u8 (st y))

theorem States.upd {w : World} {b n : Nat} {st : Nat → Nat} (h : States w b n st) (z v : Nat) : States (w.setCell ⟨b, z, none⟩ (.int .u8 v)) b n (Gr.upd st z v) :=
  Tab.set h z _ (by simp [Gr.upd]) (fun i hi => by simp [Gr.upd, hi])

set_option maxHeartbeats 1000000 in
theorem loopOf_any (vb n : Nat) (f : Nat → Nat) (w : World) (hn : n ≤ 1024) (hf : ∀ x, x < n → f x < n) (hvb : vb < w.heap.size) (hv : Tab w vb n (fun i => .int .i64 (f i))) :
    Calls Yba.prog 5 #[.slice (some ⟨vb, 0, none⟩) n n] w fun e w' => (∃ r : Int, e = .returned (.int .i64 r) ∧ Gr.Good f n r) ∧ Below w.heap.size w w' := by
  obtain ⟨i0, hi, hz0, hz1, hz2⟩ := info_parts Yba.info5
  have HF : Hid (∀ x, x < n → f x < n) := hf
  have HV : Hid (Tab w vb n (fun i => .int .i64 (f i))) := hv
  clear hf hv
  go_enter Yba.func5, Yba.ntmps5
  go_wp2_with (at_make; refine wpList_make_full _ rfl _ _ 32 rfl w.heap.size 5 i0 (.int .u8 0) 1 Yba.underlying32 hi hz0 hz1 _ _ _ _ n rfl rfl rfl rfl (by rw [hz2]; omega) (by unfold maxLen; omega) (Nat.le_refl _) ?_; intro w1 hown hgrow)
  have hb1 : Below w.heap.size w w1 := (Below.refl _ _).grown hgrow (Nat.le_refl _) (fun k hk => by cases hk)
  have hT1 : States w1 w.heap.size n (Gr.st0 f 0) := (Tab.made hown).congr (fun i _ => by simp [Gr.st0])
  clear hown hgrow hi hz0 hz1 hz2
  go_loopw [13] (fun i wr => ∃ k : Nat, k ≤ n ∧ i = .int .i64 k ∧ States wr w.heap.size n (Gr.st0 f k) ∧ Below w.heap.size w wr) (fun i _ => n - (intOf i).toNat)
  case atStart => exact ⟨0, Nat.zero_le _, rfl, hT1, hb1⟩
  case round =>
    obtain ⟨k, hk, rfl, hS, hB⟩ := hrel
    clear hT1 hb1
    by_cases hlt : k < n
    · have hcv : wr.cell? ⟨vb, k, none⟩ = some (.int .i64 (f k)) := (HV.out.below hB hvb).cell k hlt
      have hcs := hS.cell k hlt
      have hfs := hS.free k hlt
      have HS : Hid (States wr w.heap.size n (Gr.st0 f k)) := hS
      clear hS
      by_cases hfk : f k = k
      · have HFK : Hid (f k = k) := hfk
        have ht : ((k : Int) == (f k : Int)) = true := by simp [hfk]
        clear hfk
        go_wp2
        go_roundw
        case rel => exact ⟨k + 1, by omega, by go_num, by rw [Gr.st0_hit HFK.out]; exact HS.out.upd k 2, hB.setCell (Nat.le_refl _) _⟩
        case measure => simp [intOf]; omega
      · have HFK : Hid (f k ≠ k) := hfk
        have ht : ((k : Int) == (f k : Int)) = false := by simp; omega
        clear hfk
        go_wp2
        go_roundw
        case rel => exact ⟨k + 1, by omega, by go_num, by rw [Gr.st0_miss HFK.out]; exact HS.out, hB⟩
        case measure => simp [intOf]; omega
    · have hkn : k = n := by omega
      subst hkn
      have hH : ∃ st, States wr w.heap.size k st ∧ Gr.Head f k 0 st := ⟨_, hS, Gr.head_start⟩
      clear hS
      go_wp2
      go_loopw [27] (fun i w2 => ∃ x : Nat, ∃ st, x ≤ k ∧ i = .int .i64 x ∧ States w2 w.heap.size k st ∧ Gr.Head f k x st ∧ Below w.heap.size w w2) (fun i _ => k - (intOf i).toNat)
      case atStart =>
        obtain ⟨st, h1, h2⟩ := hH
        exact ⟨0, st, Nat.zero_le _, rfl, h1, h2, hB⟩
      case round =>
        clear hH hB
        obtain ⟨x, st, hx, rfl, hS, hH, hB⟩ := hrel
        by_cases hxk : x < k
        · go_wp2
          go_loopg [7] (Gr.cnt st 0 k) (fun g zz w3 => ∃ j st, zz = .int .i64 (Gr.it f j x : Nat) ∧ g = Gr.cnt st 0 k ∧ States w3 w.heap.size k st ∧ Gr.Walk1 f k x j st ∧ Below w.heap.size w w3)
          case atStart => exact ⟨0, st, rfl, rfl, hS, Gr.walk1_start hH, hB⟩
          case round =>
            clear hS hH hB
            obtain ⟨j, st, rfl, rfl, hS, hW, hB⟩ := hrel
            have hzk := Gr.it_lt HF.out j hxk
            have hcs := hS.cell _ hzk
            have hfs := hS.free _ hzk
            have hcv : wr.cell? ⟨vb, Gr.it f j x, none⟩ = some (.int .i64 (f (Gr.it f j x) : Nat)) := (HV.out.below hB hvb).cell _ hzk
            have HS : Hid (States wr w.heap.size k st) := hS
            have HW : Hid (Gr.Walk1 f k x j st) := hW
            clear hS hW
            obtain ⟨z, hz⟩ : ∃ z, z = Gr.it f j x := ⟨_, rfl⟩
            have HZ : Hid (z = Gr.it f j x) := hz
            rw [← hz] at hzk hcs hfs hcv ⊢
            clear hz
            by_cases h0 : st z = 0
            · have ht : ((st z : Int) == 0) = true := by simp [h0]
              have H0 : Hid (st z = 0) := h0
              clear h0
              go_wp2
              go_roundg (Gr.cnt (Gr.upd st z 1) 0 k)
              case measure => have := Gr.cnt_upd (u := 1) k hzk H0.out (by omega); omega
              case rel =>
                have hz := HZ.out
                have h0 := H0.out
                subst hz
                exact ⟨j + 1, _, rfl, rfl, HS.out.upd _ 1, Gr.walk1_step HF.out hxk HW.out h0, hB.setCell (Nat.le_refl _) _⟩
            · have ht : ((st z : Int) == 0) = false := by simp; omega
              have H0 : Hid (st z ≠ 0) := h0
              clear h0
              by_cases h1 : st z = 1
              · have ht1 : ((st z : Int) == 1) = true := by simp [h1]
                have H1 : Hid (st z = 1) := h1
                clear h1
                go_wp2
                go_ret
                refine ⟨⟨(z : Nat), rfl, ?_⟩, hB⟩
                have hz := HZ.out
                have h1 := H1.out
                subst hz
                exact Gr.walk1_good HF.out hxk HW.out h1
              · have ht1 : ((st z : Int) == 1) = false := by simp; omega
                have H1 : Hid (st z ≠ 1) := h1
                clear h1
                go_wp2
                have hW2 : Gr.Walk2 f k x j 0 st := by
                  have hz := HZ.out
                  have h1 := H1.out
                  have h0 := H0.out
                  subst hz
                  exact Gr.walk2_start HF.out hxk HW.out h0 h1
                have hS := HS.out
                clear ht ht1 hcs hfs hcv H0 H1 HS HW HZ hzk
                go_loopg [7] (Gr.cnt st 1 k) (fun g zz w4 => ∃ i st, zz = .int .i64 (Gr.it f i x : Nat) ∧ g = Gr.cnt st 1 k ∧ States w4 w.heap.size k st ∧ Gr.Walk2 f k x j i st ∧ Below w.heap.size w w4)
                case atStart => exact ⟨0, st, rfl, rfl, hS, hW2, hB⟩
                case round =>
                  clear hS hW2 hB
                  obtain ⟨i, st, rfl, rfl, hS, hW, hB⟩ := hrel
                  have hzk := Gr.it_lt HF.out i hxk
                  have hcs := hS.cell _ hzk
                  have hfs := hS.free _ hzk
                  have hcv : wr.cell? ⟨vb, Gr.it f i x, none⟩ = some (.int .i64 (f (Gr.it f i x) : Nat)) := (HV.out.below hB hvb).cell _ hzk
                  have HS : Hid (States wr w.heap.size k st) := hS
                  have HW : Hid (Gr.Walk2 f k x j i st) := hW
                  clear hS hW
                  obtain ⟨z, hz⟩ : ∃ z, z = Gr.it f i x := ⟨_, rfl⟩
                  have HZ : Hid (z = Gr.it f i x) := hz
                  rw [← hz] at hzk hcs hfs hcv ⊢
                  clear hz
                  by_cases h1 : st z = 1
                  · have ht1 : ((st z : Int) == 1) = true := by simp [h1]
                    have H1 : Hid (st z = 1) := h1
                    clear h1
                    go_wp2
                    go_roundg (Gr.cnt (Gr.upd st z 2) 1 k)
                    case measure => have := Gr.cnt_upd (u := 2) k hzk H1.out (by omega); omega
                    case rel =>
                      have hz := HZ.out
                      have h1 := H1.out
                      subst hz
                      exact ⟨i + 1, _, rfl, rfl, HS.out.upd _ 2, Gr.walk2_step HF.out hxk HW.out h1, hB.setCell (Nat.le_refl _) _⟩
                  · have ht1 : ((st z : Int) == 1) = false := by simp; omega
                    have H1 : Hid (st z ≠ 1) := h1
                    clear h1
                    go_wp2
                    go_roundw
                    case rel =>
                      have hz := HZ.out
                      have h1 := H1.out
                      subst hz
                      exact ⟨x + 1, st, by omega, by go_num, HS.out, Gr.walk2_end HF.out hxk HW.out h1, hB⟩
                    case measure => simp [intOf]; omega
        · have hxn : x = k := by omega
          subst hxn
          go_wp2
          go_ret
          exact ⟨⟨-1, rfl, Gr.head_good hH⟩, hB⟩
end Go.Proofs.Ybulkaknu
