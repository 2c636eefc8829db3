import Derived.Test.YbulkakmsARow
namespace Go.Proofs.Ybulkakms
open Go.RowKit

theorem neq35 (f l p : Int) (nm : ByteArray) (ar rn : Bool) (w : World) : (binOp .neq 35 (.agg #[.int .i64 f, .int .i64 l, .string nm, .int .u64 0, .int .u64 p, .bool ar, .bool rn]) (.agg #[.int .i64 f, .int .i64 l, .string nm, .int .u64 0, .int .u64 p, .bool ar, .bool rn])).run Yba.prog w = .ok (.bool false) w := by
  go_simp

set_option maxHeartbeats 2000000 in
/-- two rows that read alike are equal. -/
theorem aeq_same (u v : Value) (l : List DS) (w : World) (hl : l.length ≤ 4096) (hu : Seen w u l) (hv : Seen w v l) : Calls Yba.prog 9 #[u, v] w fun e w' => e = .returned (.bool true) ∧ ∃ q, w' = w.drewN q := by
  obtain ⟨a, c, rfl, hu⟩ := hu
  obtain ⟨b, d, rfl, hv⟩ := hv
  have HU := (show Hid _ from hu)
  have HV := (show Hid _ from hv)
  clear hu hv
  have e35 := neq35
  obtain ⟨n, hn⟩ : ∃ n, n = l.length := ⟨_, rfl⟩
  rw [← hn] at hl ⊢
  have HN : Hid (n = l.length) := hn
  clear hn
  go_enter Yba.func9, Yba.ntmps9
  go_wp2
  go_loopw [13] (fun iv wr => ∃ i q : Nat, i ≤ n ∧ iv = .int .i64 i ∧ wr = w.drewN q) (fun iv _ => n - (intOf iv).toNat)
  case atStart => exact ⟨0, 0, Nat.zero_le _, rfl, rfl⟩
  case round =>
    obtain ⟨i, q, hin, rfl, rfl⟩ := hrel
    by_cases hlt : i < n
    · have hi : i < l.length := by rw [← HN.out]; exact hlt
      obtain ⟨g, o, rfl, hg, hc⟩ := HU.out (by omega)
      obtain ⟨g2, o2, rfl, hg2, hc2⟩ := HV.out (by omega)
      have a0 : w.cell? ⟨g, o + i * 7, none⟩ = some (.int .i64 (l[i]).f) := hc i hi 0 (by omega)
      have a1 : w.cell? ⟨g, o + i * 7 + 1, none⟩ = some (.int .i64 (l[i]).l) := hc i hi 1 (by omega)
      have a2 : w.cell? ⟨g, o + i * 7 + 2, none⟩ = some (.string (nmS (l[i]).nm)) := hc i hi 2 (by omega)
      have a3 : w.cell? ⟨g, o + i * 7 + 3, none⟩ = some (.int .u64 0) := hc i hi 3 (by omega)
      have a4 : w.cell? ⟨g, o + i * 7 + 4, none⟩ = some (.int .u64 (l[i]).par) := hc i hi 4 (by omega)
      have a5 : w.cell? ⟨g, o + i * 7 + 5, none⟩ = some (.bool (l[i]).ar) := hc i hi 5 (by omega)
      have a6 : w.cell? ⟨g, o + i * 7 + 6, none⟩ = some (.bool (l[i]).rn) := hc i hi 6 (by omega)
      have b0 : w.cell? ⟨g2, o2 + i * 7, none⟩ = some (.int .i64 (l[i]).f) := hc2 i hi 0 (by omega)
      have b1 : w.cell? ⟨g2, o2 + i * 7 + 1, none⟩ = some (.int .i64 (l[i]).l) := hc2 i hi 1 (by omega)
      have b2 : w.cell? ⟨g2, o2 + i * 7 + 2, none⟩ = some (.string (nmS (l[i]).nm)) := hc2 i hi 2 (by omega)
      have b3 : w.cell? ⟨g2, o2 + i * 7 + 3, none⟩ = some (.int .u64 0) := hc2 i hi 3 (by omega)
      have b4 : w.cell? ⟨g2, o2 + i * 7 + 4, none⟩ = some (.int .u64 (l[i]).par) := hc2 i hi 4 (by omega)
      have b5 : w.cell? ⟨g2, o2 + i * 7 + 5, none⟩ = some (.bool (l[i]).ar) := hc2 i hi 5 (by omega)
      have b6 : w.cell? ⟨g2, o2 + i * 7 + 6, none⟩ = some (.bool (l[i]).rn) := hc2 i hi 6 (by omega)
      clear hc hc2 HU HV HN
      generalize (l[i]).f = xf at a0 b0
      generalize (l[i]).l = xl at a1 b1
      generalize nmS (l[i]).nm = xn at a2 b2
      generalize (l[i]).par = xp at a4 b4
      generalize (l[i]).ar = xa at a5 b5
      generalize (l[i]).rn = xr at a6 b6
      clear hi
      go_wp2
      go_quiet (fail)
      go_wp2
      go_roundw
      case rel => exact ⟨i + 1, _, by omega, by go_num, rfl⟩
      case measure => simp [intOf]; omega
    · go_wp2
      go_ret
      exact ⟨rfl, q, rfl⟩
end Go.Proofs.Ybulkakms
