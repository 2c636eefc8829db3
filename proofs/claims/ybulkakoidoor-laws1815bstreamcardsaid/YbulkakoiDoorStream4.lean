import Derived.Test.YbulkakoiDoorStream3
namespace Go.Proofs.YbulkakoiDoor
open Go.RowKit

/-- what Peek hands back. -/
def PeekOut (U m n : Nat) (a : Addr) (e : Ending) : Prop :=
  (m ≤ n ∧ ∃ c, e = .returned (.tuple #[.slice (some ⟨U, 0, none⟩) m c, .nilIface])) ∨ (n < m ∧ ∃ c, e = .returned (.tuple #[.slice (some ⟨U, 0, none⟩) n c, .iface 103 (.pointer (some a))]))

set_option maxHeartbeats 2000000 in
set_option maxRecDepth 100000 in
theorem peekB (N D S U B n c k m : Nat) (z : Nat → Int) (a : Addr) (w : World) (hN : 2000 ≤ N) (hN2 : N ≤ 100000) (hn : n ≤ 1024) (hc1 : 1 ≤ c) (hc8 : c ≤ 8) (hm : m ≤ n + 2) (hk : k ≤ n) (hDU : D ≠ U) (hSU : S ≠ U) (hDS : D ≠ S) (hBS : B ≠ S) (hBU : B ≠ U) (hBD : B ≠ D)
    (h0 : 0 ∉ [S, U, B]) (hR : Rest w N D S U B n c k z .nilIface) (hE : w.cell? ⟨0, 0, none⟩ = some (.iface 103 (.pointer (some a)))) :
    Calls Ybad.prog 14 #[.pointer (some ⟨B, 0, none⟩), .int .i64 m] w fun e w' => PeekOut U m n a e ∧ (∃ k', k' ≤ n ∧ min m n ≤ k' ∧ Rest w' N D S U B n c k' z .nilIface) ∧ Oth [S, U, B] w w' := by
  have HR : Hid (Rest w N D S U B n c k z .nilIface) := hR
  have HE : Hid (w.cell? ⟨0, 0, none⟩ = some (.iface 103 (.pointer (some a)))) := hE
  have b5 : w.cell? ⟨B, 5, none⟩ = some (.int .i64 (-1)) := hR.buf.cell 5
  have b6 : w.cell? ⟨B, 6, none⟩ = some (.int .i64 (-1)) := hR.buf.cell 6
  have g5 := hR.buf.free 5
  have g6 := hR.buf.free 6
  clear hR hE
  go_enter Ybad.func14, Ybad.ntmps14
  go_wp2
  have hRR : ∃ k', k' ≤ n ∧ Rest ((w.setCell ⟨B, 5, none⟩ (.int .i64 (-1))).setCell ⟨B, 6, none⟩ (.int .i64 (-1))) N D S U B n c k' z .nilIface := by
    have hO : Oth [B] w ((w.setCell ⟨B, 5, none⟩ (.int .i64 (-1))).setCell ⟨B, 6, none⟩ (.int .i64 (-1))) := ((Oth.refl [B] w).setCell (by simp) 5 _).setCell (by simp) 6 _
    exact ⟨k, hk, HR.out.src.oth hO (by simp [Ne.symm hBD]) (by simp [Ne.symm hBS]) (by simp [Ne.symm hBU]), (HR.out.buf.set 5 (.int .i64 (-1))).set 6 (.int .i64 (-1))⟩
  have hO0 : Oth [S, U, B] w ((w.setCell ⟨B, 5, none⟩ (.int .i64 (-1))).setCell ⟨B, 6, none⟩ (.int .i64 (-1))) := ((Oth.refl [S, U, B] w).setCell (by simp) 5 _).setCell (by simp) 6 _
  have n1 := eqlNil30'
  have n2 := eqlIf30
  go_loopg [17] (2 * (n - 0) + 1) (fun g _ wr => ∃ k', k' ≤ n ∧ Hid (Oth [S, U, B] w wr) ∧ ((Hid (2 * (n - k') + 1 ≤ g) ∧ Hid (Rest wr N D S U B n c k' z .nilIface)) ∨ (n < m ∧ k' = n ∧ Hid (Rest wr N D S U B n c n z (.iface 103 (.pointer (some a)))))))
  case atStart =>
    obtain ⟨k', hk', hR'⟩ := hRR
    exact ⟨k', hk', hO0, .inl ⟨by show _ ≤ _; omega, hR'⟩⟩
  case round =>
    clear hRR hO0 b5 b6 g5 g6
    obtain ⟨k', hk', HO, ⟨hg, HR2⟩ | ⟨hnm, rfl, HR2⟩⟩ := hrel
    · have b0 : wr.cell? ⟨B, 0, none⟩ = some (.slice (some ⟨U, 0, none⟩) N N) := HR2.out.buf.cell 0
      have b2 : wr.cell? ⟨B, 2, none⟩ = some (.int .i64 0) := HR2.out.buf.cell 2
      have b3 : wr.cell? ⟨B, 3, none⟩ = some (.int .i64 k') := HR2.out.buf.cell 3
      have b4 : wr.cell? ⟨B, 4, none⟩ = some .nilIface := HR2.out.buf.cell 4
      have hN0 : ¬ N = 0 := by omega
      by_cases hkm : k' < m
      · have hd1 : decide ((k' : Int) < (m : Int)) = true := by simp; omega
        have hd2 : decide ((k' : Int) < (N : Int)) = true := by simp; omega
        have i1 : (k' : Int) < (m : Int) := by omega
        have i2 : (k' : Int) < (N : Int) := by omega
        by_cases hkn : k' < n
        · go_wp2
          go_quiet (fail)
          go_wp2_with fail
          refine (fill_some N D S U B n c k' z _ hN hN2 hn hc1 hc8 hkn hDU hSU hDS hBS hBU hBD (by exact HR2.out.src.of_heap rfl) (by exact HR2.out.buf)).mono ?_
          rintro e w2 ⟨rfl, c', h1, h2, hS2, hB2, hO2⟩
          have HO2 : Hid (Oth [S, U, B] w w2) := HO.out.trans ⟨hO2.os, hO2.tape, hO2.output, hO2.size, hO2.block⟩
          have HR3 : Hid (Rest w2 N D S U B n c (k' + c') z .nilIface) := ⟨hS2, hB2⟩
          clear hS2 hB2 hO2 b0 b2 b3 b4
          go_wp2
          go_roundg (2 * (n - (k' + c')) + 1)
          case measure => have := hg.out; omega
          case rel => exact ⟨k' + c', h2, HO2.out, .inl ⟨Nat.le_refl _, HR3.out⟩⟩
        · obtain rfl : k' = n := by omega
          have hE2 : wr.cell? ⟨0, 0, none⟩ = some (.iface 103 (.pointer (some a))) := (HO.out.cell h0 0).trans HE.out
          go_wp2
          go_quiet (fail)
          go_wp2_with fail
          refine (fill_eof N D S U B k' c z a _ hN hN2 hn hBS hBU hBD (by exact HR2.out.src.of_heap rfl) (by exact HR2.out.buf) (by exact hE2)).mono ?_
          rintro e w2 ⟨rfl, hS2, hB2, hO2⟩
          have HO2 : Hid (Oth [S, U, B] w w2) := HO.out.trans ((show Oth [B] wr w2 from ⟨hO2.os, hO2.tape, hO2.output, hO2.size, hO2.block⟩).mono (by simp))
          have HR3 : Hid (Rest w2 N D S U B k' c k' z (.iface 103 (.pointer (some a)))) := ⟨hS2, hB2⟩
          clear hS2 hB2 hO2 b0 b2 b3 b4 hE2
          go_wp2
          go_roundg 0
          case measure => have := hg.out; omega
          case rel => exact ⟨k', Nat.le_refl _, HO2.out, .inr ⟨hkm, rfl, HR3.out⟩⟩
      · have hd1 : decide ((k' : Int) < (m : Int)) = false := by simp; omega
        have i1 : (m : Int) ≤ (N : Int) := by omega
        go_wp2
        go_quiet (fail)
        go_wp2
        go_quiet (fail)
        go_wp2
        go_quiet (fail)
        go_wp2
        go_ret2
        exact ⟨.inl ⟨by omega, _, rfl⟩, ⟨k', hk', by omega, HR2.out.of_heap rfl⟩, ⟨HO.out.os, HO.out.tape, HO.out.output, HO.out.size, HO.out.block⟩⟩
    · have b0 : wr.cell? ⟨B, 0, none⟩ = some (.slice (some ⟨U, 0, none⟩) N N) := HR2.out.buf.cell 0
      have b2 : wr.cell? ⟨B, 2, none⟩ = some (.int .i64 0) := HR2.out.buf.cell 2
      have b3 : wr.cell? ⟨B, 3, none⟩ = some (.int .i64 k') := HR2.out.buf.cell 3
      have b4 : wr.cell? ⟨B, 4, none⟩ = some (.iface 103 (.pointer (some a))) := HR2.out.buf.cell 4
      have g4 := HR2.out.buf.free 4
      have hN0 : ¬ N = 0 := by omega
      have hd1 : decide ((k' : Int) < (m : Int)) = true := by simp; omega
      have hd2 : decide ((k' : Int) < (N : Int)) = true := by simp; omega
      have i1 : (k' : Int) < (m : Int) := by omega
      have i2 : (k' : Int) < (N : Int) := by omega
      go_wp2
      go_quiet (fail)
      go_wp2
      go_quiet (fail)
      go_wp2_with fail
      refine (readErr_any B 103 (.pointer (some a)) _ (by exact b4) (by exact g4)).mono ?_
      rintro e w2 ⟨rfl, rfl⟩
      go_wp2
      go_quiet (fail)
      go_wp2
      go_ret2
      refine ⟨.inr ⟨hnm, _, rfl⟩, ⟨k', hk', by omega, ?_⟩, ?_⟩
      · have hO3 : Oth [B] wr (wr.setCell ⟨B, 4, none⟩ .nilIface) := (Oth.refl [B] wr).setCell (by simp) 4 _
        have hR3 : Rest (wr.setCell ⟨B, 4, none⟩ .nilIface) N D S U B k' c k' z .nilIface := ⟨HR2.out.src.oth hO3 (by simp [Ne.symm hBD]) (by simp [Ne.symm hBS]) (by simp [Ne.symm hBU]), HR2.out.buf.set 4 .nilIface⟩
        exact hR3.of_heap rfl
      · have hO3 : Oth [S, U, B] w (wr.setCell ⟨B, 4, none⟩ .nilIface) := HO.out.setCell (by simp) 4 _
        exact ⟨hO3.os, hO3.tape, hO3.output, hO3.size, hO3.block⟩
end Go.Proofs.YbulkakoiDoor
