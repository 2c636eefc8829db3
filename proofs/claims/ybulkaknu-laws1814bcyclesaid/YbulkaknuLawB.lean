import Derived.Test.YbulkaknuCycle
import Derived.Deep.QuietTactic
import Derived.BigQuiet
namespace Go.Proofs.Ybulkaknu
open Go.RowKit

theorem via_ex2 (n : Nat) (z : Nat → Int) (hn : 0 < n) : ∃ f : Nat → Nat, (∀ x, x < n → f x < n) ∧ ∀ k, k < n → z k % (n : Int) = (f k : Int) := by
  refine ⟨fun k => (z k % (n : Int)).toNat, ?_, ?_⟩
  · intro x hx
    have h1 := Int.emod_lt_of_pos (z x) (show (0 : Int) < (n : Int) from by omega)
    have h2 := Int.emod_nonneg (z x) (show (n : Int) ≠ 0 from by omega)
    show (z x % (n : Int)).toNat < n
    omega
  · intro k hk
    have h2 := Int.emod_nonneg (z k) (show (n : Int) ≠ 0 from by omega)
    show _ = (((z k % (n : Int)).toNat : Nat) : Int)
    omega

set_option maxHeartbeats 2000000 in
theorem lawB_any (a0 : Option Addr) (n c0 : Nat) (z : Nat → Int) (a1 : Int) (w : World) (h10 : 0 ≤ a1) (h11 : a1 ≤ 65535)
    (hrow : Hid (0 < n → ∃ b off, a0 = some ⟨b, off, none⟩ ∧ b < w.heap.size ∧ ∀ i, i < n → 0 ≤ z i ∧ z i ≤ 65535 ∧ w.cell? ⟨b, off + i, none⟩ = some (.int .u16 (z i)))) :
    Calls Yba.prog 4 #[.slice a0 n c0, .int .u16 a1] w fun e w' => e = .returned (.bool true) ∧ Below w.heap.size w w' := by
  obtain ⟨i0, hi, hz0, hz1, hz2⟩ := info_parts Yba.info3'
  obtain ⟨i4, hi4, hz40, hz41, hz42⟩ := info_parts Yba.info4
  by_cases hn0 : n = 0
  · have ht : ((n : Int) == 0) = true := by simp [hn0]
    clear hn0
    go_enter Yba.func4, Yba.ntmps4
    go_wp2
    go_ret
    exact ⟨rfl, Below.refl _ _⟩
  have ht0 : ((n : Int) == 0) = false := by simp; omega
  have hpos : 0 < n := by omega
  clear hn0
  by_cases hn : 512 < n
  · go_enter Yba.func4, Yba.ntmps4
    go_wp2
    go_ret
    exact ⟨rfl, Below.refl _ _⟩
  have hn' : n ≤ 512 := by omega
  clear hn
  obtain ⟨b, off, rfl, hb, hc⟩ := hrow.out hpos
  obtain ⟨f, hf, hfz⟩ := via_ex2 n z hpos
  have HF : Hid (∀ x, x < n → f x < n) := hf
  have HFZ : Hid (∀ k, k < n → z k % (n : Int) = (f k : Int)) := hfz
  have HC : Hid (∀ i, i < n → 0 ≤ z i ∧ z i ≤ 65535 ∧ w.cell? ⟨b, off + i, none⟩ = some (.int .u16 (z i))) := hc
  obtain ⟨zn, hzn⟩ : ∃ zn : Nat, a1 % (n : Int) = (zn : Int) := ⟨(a1 % (n : Int)).toNat, by have := Int.emod_nonneg a1 (show (n : Int) ≠ 0 from by omega); omega⟩
  have hznn : zn < n := by have := Int.emod_lt_of_pos a1 (show (0 : Int) < (n : Int) from by omega); omega
  clear hf hfz hc hrow
  go_enter Yba.func4, Yba.ntmps4
  go_wp2_with (at_make; refine wpList_make_full _ rfl _ _ 22 rfl w.heap.size 3 i0 (.int .i64 0) 1 Yba.underlying22 hi hz0 hz1 _ _ _ _ n rfl rfl rfl rfl (by rw [hz2]; omega) (by unfold maxLen; omega) (Nat.le_refl _) ?_; intro w1 hown hgrow)
  have hb1 : Below w.heap.size w w1 := (Below.refl _ _).grown hgrow (Nat.le_refl _) (fun k hk => by cases hk)
  have hs1 : w.heap.size < w1.heap.size := owns_lt hown
  have hT1 : Tab w1 w.heap.size n (fun i => .int .i64 (if i < 0 then (f i : Int) else 0)) := (Tab.made hown).congr (fun i _ => by simp)
  clear hown hgrow hi hz0 hz1 hz2
  go_loopw [32] (fun i wr => ∃ k : Nat, k ≤ n ∧ i = .int .i64 k ∧ Below w.heap.size w wr ∧ w.heap.size < wr.heap.size ∧ Tab wr w.heap.size n (fun i => .int .i64 (if i < k then (f i : Int) else 0))) (fun i _ => n - (intOf i).toNat)
  case atStart => exact ⟨0, Nat.zero_le _, rfl, hb1, hs1, hT1⟩
  case round =>
    clear hb1 hs1 hT1
    obtain ⟨k, hk, rfl, hB, hs, hT⟩ := hrel
    by_cases hlt : k < n
    · obtain ⟨hz0, hz1, hcc⟩ := HC.out k hlt
      have hck : wr.cell? ⟨b, off + k, none⟩ = some (.int .u16 (z k)) := (hB.cell (p := ⟨b, off + k, none⟩) hb).trans hcc
      have hcs := hT.cell k hlt
      have hfs := hT.free k hlt
      have he := HFZ.out k hlt
      have HT : Hid (Tab wr w.heap.size n (fun i => .int .i64 (if i < k then (f i : Int) else 0))) := hT
      simp only [Nat.lt_irrefl, if_false] at hcs
      clear hcc hT
      go_wp2
      go_roundw
      case rel =>
        refine ⟨k + 1, by omega, by go_num, hB.setCell (Nat.le_refl _) _, by simpa using hs, HT.out.set k _ (by simp) (fun i hi => ?_)⟩
        by_cases e : i < k
        · simp [e, show i < k + 1 from by omega]
        · simp [e, show ¬ i < k + 1 from by omega]
      case measure => simp [intOf]; omega
    · have hkn : k = n := by omega
      subst hkn
      have hN : Tab wr w.heap.size k (fun i => .int .i64 (f i)) := hT.congr (fun i hi => by simp [hi])
      clear hT
      go_wp2_with fail
      refine (cycleAt_any w.heap.size k zn f wr (by omega) HF.out hznn hs hN).mono ?_
      rintro e w2 ⟨c, m, g, cap, s, rfl, hfi, hro, hg1, hg2, hTc, hb2⟩
      have hN2 : Tab w2 w.heap.size k (fun i => .int .i64 (f i)) := hN.below hb2 hs
      have hB2 : Below w.heap.size w w2 := hB.trans (hb2.mono (Nat.le_of_lt hs))
      have hs2 : w.heap.size < w2.heap.size := Nat.lt_of_lt_of_le hs hb2.size
      have hck : c < k := by rw [hfi.is]; exact Gr.it_lt HF.out s hznn
      have hmk : m ≤ k := hro.le HF.out hck
      have hm1 := hro.pos
      have HFI : Hid (Gr.First f k zn s c) := hfi
      have HRO : Hid (Gr.Round f c m) := hro
      have hgv : w.heap.size < g := Nat.lt_of_lt_of_le hs hg1
      clear hb2 hN hB hs hk hlt hfi hro hg1
      go_wp2_with (at_make; refine wpList_make_full _ rfl _ _ 29 rfl w2.heap.size 4 i4 (.bool false) 1 Yba.underlying29 hi4 hz40 hz41 _ _ _ _ k rfl rfl rfl rfl (by rw [hz42]; omega) (by unfold maxLen; omega) (Nat.le_refl _) ?_; intro w3 hown3 hgrow3)
      have hb3 : Below w2.heap.size w2 w3 := (Below.refl _ _).grown hgrow3 (Nat.le_refl _) (fun k hk => by cases hk)
      have hT3 : Tab w3 w2.heap.size k (fun i => .bool (Gr.marks f c m 0 i)) := (Tab.made hown3).congr (fun i _ => by rw [Gr.marks_zero])
      have HTC : Hid (Tab w2 g m (fun i => .int .i64 (Gr.cyc f c m i : Nat))) := hTc
      have HN2 : Hid (Tab w2 w.heap.size k (fun i => .int .i64 (f i))) := hN2
      clear hown3 hgrow3 hi4 hz40 hz41 hz42 hTc hN2
      go_loopw [65] (fun i wr => ∃ j : Nat, j ≤ m ∧ i = .int .i64 j ∧ Below w2.heap.size w2 wr ∧ Tab wr w2.heap.size k (fun i => .bool (Gr.marks f c m j i))) (fun i _ => m - (intOf i).toNat)
      case atStart => exact ⟨0, Nat.zero_le _, rfl, hb3, hT3⟩
      case round =>
        clear hb3 hT3
        obtain ⟨j, hj, rfl, hB3, hT⟩ := hrel
        by_cases hjm : j < m
        · have hcc := (HTC.out.below hB3 hg2).cell j hjm
          have hcl : Gr.cyc f c m j < k := Gr.cyc_lt HF.out hck
          have hcm := hT.cell _ hcl
          have hfm := hT.free _ hcl
          rw [Gr.marks_new HRO.out hjm] at hcm
          have HT : Hid (Tab wr w2.heap.size k (fun i => .bool (Gr.marks f c m j i))) := hT
          clear hT
          obtain ⟨y, hy⟩ : ∃ y, y = Gr.cyc f c m j := ⟨_, rfl⟩
          have HY : Hid (y = Gr.cyc f c m j) := hy
          rw [← hy] at hcc hcl hcm hfm
          clear hy
          go_wp2
          go_roundw
          case rel =>
            refine ⟨j + 1, by omega, by go_num, hB3.setCell (Nat.le_refl _) _, ?_⟩
            rw [Gr.marks_succ, ← HY.out]
            exact HT.out.set _ _ (by simp [Gr.updB]) (fun i hi => by simp [Gr.updB, hi])
          case measure => simp [intOf]; omega
        · clear hT
          go_wp2
          go_loopw [15] (fun i wr => ∃ j : Nat, j + 1 ≤ m ∧ i = .int .i64 j ∧ Below w2.heap.size w2 wr) (fun i _ => m - (intOf i).toNat)
          case atStart => exact ⟨0, by omega, rfl, hB3⟩
          case round =>
            clear hB3 hjm hj
            obtain ⟨j, hj, rfl, hB3⟩ := hrel
            have hTc := HTC.out.below hB3 hg2
            have hTn := HN2.out.below hB3 hs2
            by_cases hjm : j + 1 < m
            · have c1 := hTc.cell (j + 1) hjm
              have c0 := hTc.cell j (by omega)
              have hl1 : Gr.cyc f c m (j + 1) < k := Gr.cyc_lt HF.out hck
              have c2 := hTn.cell _ hl1
              have hne : f (Gr.cyc f c m (j + 1)) = Gr.cyc f c m j := Gr.cyc_next hjm
              rw [hne] at c2
              clear hTc hTn hne
              generalize Gr.cyc f c m (j + 1) = y1 at c1 hl1 c2
              generalize Gr.cyc f c m j = y0 at c0 c2
              go_wp2
              go_quiet (fail)
              go_wp2
              go_roundw
              case rel => exact ⟨j + 1, by omega, by go_num, below_drewN hB3 _⟩
              case measure => simp [intOf]; omega
            · have hjm' : j + 1 = m := by omega
              have c0 := hTc.cell 0 (by omega)
              have cl := hTc.cell (m - 1) (by omega)
              rw [Gr.cyc_last] at cl
              have hl0 : Gr.cyc f c m 0 < k := Gr.cyc_lt HF.out hck
              have cv := hTn.cell _ hl0
              have hne : f (Gr.cyc f c m 0) = c := Gr.cyc_first HRO.out
              rw [hne] at cv
              have HB3 : Hid (Below w2.heap.size w2 wr) := hB3
              clear hTc hTn hne hjm' hB3
              generalize Gr.cyc f c m 0 = y0 at c0 hl0 cv
              go_wp2
              go_quiet (fail)
              go_wp2
              clear c0 cv hl0
              go_loopw [16, 17] (fun y i wr => ∃ t : Nat, t ≤ s ∧ i = .int .i64 t ∧ y = .int .i64 (Gr.it f t zn : Nat) ∧ Below w2.heap.size w2 wr) (fun _ i _ => k - (intOf i).toNat)
              case atStart => exact ⟨0, Nat.zero_le _, rfl, rfl, below_drewN HB3.out _⟩
              case round =>
                clear HB3 cl
                obtain ⟨t, hts, rfl, rfl, hB3⟩ := hrel
                have hTn := HN2.out.below hB3 hs2
                have hsk : s < k := HFI.out.le
                have hyt := Gr.it_lt HF.out t hznn
                have cy := hTn.cell _ hyt
                have cl := (HTC.out.below hB3 hg2).cell (m - 1) (by omega)
                rw [Gr.cyc_last] at cl
                go_wp2_with fail
                refine (onC_any w.heap.size k _ f wr (by omega) HF.out hyt hTn).mono ?_
                rintro e w5 ⟨⟨bb, rfl, hbb⟩, rfl⟩
                by_cases htl : t < s
                · have hbf : bb = false := by
                    cases bb with
                    | false => rfl
                    | true => exact absurd (hbb.1 rfl) (HFI.out.no t htl)
                  subst hbf
                  clear hbb hTn
                  go_wp2
                  go_roundw
                  case rel => exact ⟨t + 1, by omega, by go_num, rfl, hB3⟩
                  case measure => simp [intOf]; omega
                · have hte : t = s := by omega
                  subst hte
                  have hic : Gr.it f t zn = c := HFI.out.is.symm
                  have hbt : bb = true := hbb.2 (by rw [hic]; exact HFI.out.on)
                  subst hbt
                  rw [hic]
                  clear hbb hTn hic cy hyt
                  go_wp2
                  go_ret
                  exact ⟨by simp, hB2.trans (hB3.mono (Nat.le_of_lt hs2))⟩
end Go.Proofs.Ybulkaknu
