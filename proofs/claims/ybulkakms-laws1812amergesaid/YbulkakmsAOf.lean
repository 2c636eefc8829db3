import Derived.Test.YbulkakmsAEq
namespace Go.Proofs.Ybulkakms
open Go.RowKit

/-- does one of the first i bytes name k? -/
def hasB (x : Nat → Int) (k : Int) : Nat → Bool
  | 0 => false
  | i + 1 => hasB x k i || (x i % 8 == k)

theorem hasB_mono {x : Nat → Int} {k : Int} {i n : Nat} (h : hasB x k i = true) (hin : i ≤ n) : hasB x k n = true := by
  induction n with
  | zero =>
    have e : i = 0 := by omega
    subst e
    exact h
  | succ n ih =>
    by_cases e : i = n + 1
    · subst e; exact h
    · rw [hasB, ih (by omega)]; rfl

/-- the bytes as they lie. -/
def BytesAt (w : World) (xo : Option Addr) (n : Nat) (x : Nat → Int) : Prop :=
  0 < n → ∃ b off, xo = some ⟨b, off, none⟩ ∧ b < w.heap.size ∧ ∀ i, i < n → 0 ≤ x i ∧ x i ≤ 255 ∧ w.cell? ⟨b, off + i, none⟩ = some (.int .u8 (x i))

theorem BytesAt.below {w w' : World} {xo : Option Addr} {n : Nat} {x : Nat → Int} {B : Nat} (h : BytesAt w xo n x) (hb : Below B w w') (hB : ∀ b off, xo = some ⟨b, off, none⟩ → b < B) : BytesAt w' xo n x := by
  intro hp
  obtain ⟨b, off, rfl, hl, hc⟩ := h hp
  have hs := hb.size
  exact ⟨b, off, rfl, by omega, fun i hi => ⟨(hc i hi).1, (hc i hi).2.1, (hb.cell (p := ⟨b, off + i, none⟩) (hB b off rfl)).trans (hc i hi).2.2⟩⟩

theorem ahas_any (xo : Option Addr) (n cap : Nat) (x : Nat → Int) (k : Nat) (w : World) (hn : n ≤ 1024) (hx : BytesAt w xo n x) : Calls Yba.prog 10 #[.slice xo n cap, .int .i64 k] w fun e w' => e = .returned (.bool (hasB x k n)) ∧ w' = w := by
  have HX := (show Hid _ from hx)
  clear hx
  go_enter Yba.func10, Yba.ntmps10
  go_wp2
  go_loop [9] (fun iv => ∃ i : Nat, i ≤ n ∧ iv = .int .i64 i ∧ Hid (hasB x k i = false)) (fun iv => n - (intOf iv).toNat)
  case atStart => exact ⟨0, Nat.zero_le _, rfl, rfl⟩
  case round =>
    obtain ⟨i, hin, rfl, hno⟩ := hrel
    by_cases hlt : i < n
    · obtain ⟨b, off, rfl, hb, hc⟩ := HX.out (by omega)
      obtain ⟨h0, h1, hci⟩ := hc i hlt
      clear hc
      by_cases he : x i % 8 = k
      · have ht : (x i % 8 == (k : Int)) = true := by simp [he]
        have hh : hasB x k n = true := hasB_mono (i := i + 1) (by rw [hasB, ht]; simp) (by omega)
        have HH : Hid (hasB x k n = true) := hh
        clear he hh
        go_wp2
        go_ret
        exact ⟨by rw [HH.out]; rfl, rfl⟩
      · have ht : (x i % 8 == (k : Int)) = false := by simp [he]
        have HE : Hid (hasB x k (i + 1) = false) := by show _ = _; rw [hasB, hno.out, ht]; rfl
        clear he
        go_wp2
        go_round
        case rel => exact ⟨i + 1, by omega, by go_num, HE⟩
        case measure => simp [intOf]; omega
    · obtain rfl : i = n := by omega
      go_wp2
      go_ret
      exact ⟨by rw [hno.out]; rfl, rfl⟩

/-- the spans as they lie. -/
def SpansAt (w : World) (so : Option Addr) (n : Nat) (sp : Nat → Sp) : Prop :=
  0 < n → ∃ b off, so = some ⟨b, off, none⟩ ∧ b < w.heap.size ∧ ∀ i, i < n → (sp i).ok ∧ ∀ k, k < 7 → w.cell? ⟨b, off + i * 7 + k, none⟩ = (sp i).v[k]?

theorem SpansAt.below {w w' : World} {so : Option Addr} {n : Nat} {sp : Nat → Sp} {B : Nat} (h : SpansAt w so n sp) (hb : Below B w w') (hB : ∀ b off, so = some ⟨b, off, none⟩ → b < B) : SpansAt w' so n sp := by
  intro hp
  obtain ⟨b, off, rfl, hl, hc⟩ := h hp
  have hs := hb.size
  exact ⟨b, off, rfl, by omega, fun i hi => ⟨(hc i hi).1, fun k hk => (hb.cell (p := ⟨b, _, none⟩) (hB b off rfl)).trans ((hc i hi).2 k hk)⟩⟩

/-- the dirSpans of directory d among the first i. -/
def ofD (sp : Nat → Sp) (d : Int) : Nat → List DS
  | 0 => []
  | i + 1 => if (sp i).dir % 4 = d then ofD sp d i ++ [(sp i).ds] else ofD sp d i

theorem ofD_le (sp : Nat → Sp) (d : Int) (i : Nat) : (ofD sp d i).length ≤ i := by
  induction i with
  | zero => simp [ofD]
  | succ i ih =>
    rw [ofD]
    split
    · simp; omega
    · omega

theorem info35 : (Yba.prog.info? 35).map (fun i => (i.zero, i.size, i.bytes)) = some (some (.agg #[.int .i64 0, .int .i64 0, .string ⟨#[]⟩, .int .u64 0, .int .u64 0, .bool false, .bool false]), 7, 56) := by kernel_rfl
end Go.Proofs.Ybulkakms
