import Derived.Test.YbulkakmsCMerge
namespace Go.Proofs.Ybulkakms
open Go.RowKit

theorem neq66 (a b n : Int) (w : World) : (binOp .neq 66 (.agg #[.int .u16 a, .int .u16 b, .int .i64 n]) (.agg #[.int .u16 a, .int .u16 b, .int .i64 n])).run Yba.prog w = .ok (.bool false) w := by
  go_simp

set_option maxHeartbeats 2000000 in
/-- slices.Equal at two rows that read alike. -/
theorem equal_same (u v : Value) (l : List Vc) (w : World) (hl : l.length ≤ 4096) (hu : Seen3 w u l) (hv : Seen3 w v l) : Calls Yba.prog 19 #[u, v] w fun e w' => e = .returned (.bool true) ∧ ∃ q, w' = w.drewN q := by
  obtain ⟨a, c, rfl, hu⟩ := hu
  obtain ⟨b, d, rfl, hv⟩ := hv
  have HU : Hid (type_of% hu) := hu
  have HV : Hid (type_of% hv) := hv
  clear hu hv
  have e66 := neq66
  obtain ⟨n, hn⟩ : ∃ n, n = l.length := ⟨_, rfl⟩
  rw [← hn] at hl ⊢
  have HN : Hid (n = l.length) := hn
  clear hn
  go_enter Yba.func19, Yba.ntmps19
  go_wp2
  go_loopw [5, 13] (fun _ iv wr => ∃ i q : Nat, i ≤ n ∧ iv = .int .i64 i ∧ wr = w.drewN q) (fun _ iv _ => n - (intOf iv).toNat)
  case atStart => exact ⟨0, 0, Nat.zero_le _, rfl, rfl⟩
  case round =>
    obtain ⟨i, q, hin, rfl, rfl⟩ := hrel
    by_cases hlt : i < n
    · have hi : i < l.length := by rw [← HN.out]; exact hlt
      obtain ⟨g, rfl, hg, hc⟩ := HU.out (by omega)
      obtain ⟨g2, rfl, hg2, hc2⟩ := HV.out (by omega)
      have a0 : w.cell? ⟨g, i * 3, none⟩ = some (.int .u16 (l[i]).a) := hc i hi 0 (by omega)
      have a1 : w.cell? ⟨g, i * 3 + 1, none⟩ = some (.int .u16 (l[i]).b) := hc i hi 1 (by omega)
      have a2 : w.cell? ⟨g, i * 3 + 2, none⟩ = some (.int .i64 (l[i]).n) := hc i hi 2 (by omega)
      have b0 : w.cell? ⟨g2, i * 3, none⟩ = some (.int .u16 (l[i]).a) := hc2 i hi 0 (by omega)
      have b1 : w.cell? ⟨g2, i * 3 + 1, none⟩ = some (.int .u16 (l[i]).b) := hc2 i hi 1 (by omega)
      have b2 : w.cell? ⟨g2, i * 3 + 2, none⟩ = some (.int .i64 (l[i]).n) := hc2 i hi 2 (by omega)
      clear hc hc2 HU HV HN
      generalize (l[i]).a = xa at a0 b0
      generalize (l[i]).b = xb at a1 b1
      generalize (l[i]).n = xn at a2 b2
      clear hi
      go_upto_region 6 with fail
      go_quiet (fail)
      go_wp2
      go_roundw
      case rel => exact ⟨i + 1, _, by omega, by go_num, rfl⟩
      case measure => simp [intOf]; omega
    · go_wp2
      go_ret
      exact ⟨rfl, q, rfl⟩

set_option maxHeartbeats 8000000 in
set_option maxRecDepth 100000 in
/-- zzs1812ceq at two Summaries that read alike (but for Max). -/
theorem ceq_same (S T : Nat) (s t : Sm) (u v : Value) (l : List Vc) (w : World) (hl : l.length ≤ 4096) (hS : Hid (SumAt w S s u l)) (hT : Hid (SumAt w T t v l)) (e : t = { s with mx := t.mx }) : Calls Yba.prog 14 #[.pointer (some ⟨S, 0, none⟩), .pointer (some ⟨T, 0, none⟩)] w fun e w' => e = .returned (.bool true) ∧ ∃ q, w' = w.drewN q := by
  obtain ⟨tr, tf, tl, tx, tov, tsk, tdm, tmx⟩ := t
  obtain ⟨r, f, ll, x, ov, sk, dm, mx⟩ := s
  simp only [Sm.mk.injEq] at e
  obtain ⟨rfl, rfl, rfl, rfl, rfl, rfl, rfl, -⟩ := e
  have a0 : w.cell? ⟨S, 0, none⟩ = some (.int .i64 tr) := hS.out.cell 0
  have a1 : w.cell? ⟨S, 1, none⟩ = some (.int .i64 tf) := hS.out.cell 1
  have a2 : w.cell? ⟨S, 2, none⟩ = some (.int .i64 tl) := hS.out.cell 2
  have a3 : w.cell? ⟨S, 3, none⟩ = some (.int .i64 tx) := hS.out.cell 3
  have a4 : w.cell? ⟨S, 4, none⟩ = some (.bool tov) := hS.out.cell 4
  have a5 : w.cell? ⟨S, 5, none⟩ = some u := hS.out.cell 5
  have a6 : w.cell? ⟨S, 6, none⟩ = some (.int .i64 tsk) := hS.out.cell 6
  have a7 : w.cell? ⟨S, 7, none⟩ = some (.int .i64 tdm) := hS.out.cell 7
  have b0 : w.cell? ⟨T, 0, none⟩ = some (.int .i64 tr) := hT.out.cell 0
  have b1 : w.cell? ⟨T, 1, none⟩ = some (.int .i64 tf) := hT.out.cell 1
  have b2 : w.cell? ⟨T, 2, none⟩ = some (.int .i64 tl) := hT.out.cell 2
  have b3 : w.cell? ⟨T, 3, none⟩ = some (.int .i64 tx) := hT.out.cell 3
  have b4 : w.cell? ⟨T, 4, none⟩ = some (.bool tov) := hT.out.cell 4
  have b5 : w.cell? ⟨T, 5, none⟩ = some v := hT.out.cell 5
  have b6 : w.cell? ⟨T, 6, none⟩ = some (.int .i64 tsk) := hT.out.cell 6
  have b7 : w.cell? ⟨T, 7, none⟩ = some (.int .i64 tdm) := hT.out.cell 7
  have HU : Hid (Seen3 w u l) := Seen3.of_owns hS.out.own
  have HV : Hid (Seen3 w v l) := Seen3.of_owns hT.out.own
  clear hS hT
  go_enter Yba.func14, Yba.ntmps14
  have hq : ∀ n : Nat, Calls Yba.prog 19 #[u, v] (w.drewN n) fun e w' => e = .returned (.bool true) ∧ ∃ q, w' = (w.drewN n).drewN q := fun n => equal_same u v l _ hl (HU.out.kept (fun _ _ _ _ _ => rfl) (Nat.le_refl _)) (HV.out.kept (fun _ _ _ _ _ => rfl) (Nat.le_refl _))
  have HQ : Hid (type_of% hq) := hq
  clear hq
  go_upto_region 1 with fail
  go_quiet (first | (go_at_call 19; exact Calls.quiet_of (HQ.out _)))
  go_wp2
  go_ret
  exact ⟨rfl, _, rfl⟩
end Go.Proofs.Ybulkakms
