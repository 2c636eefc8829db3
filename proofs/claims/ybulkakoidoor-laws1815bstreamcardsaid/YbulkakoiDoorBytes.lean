import Derived.Test.YbulkakoiDoorProg
import Derived.WalkKit
import Derived.WalkSpells
import Derived.WalkSmall
import Derived.Deep.QuietTactic
import Derived.BigQuiet
import Derived.Deep.LoopGhost
import Derived.Laws.CopyOwn
import Derived.WideLaws
namespace Go.Proofs.YbulkakoiDoor
open Go.RowKit

theorem Ybad.info5 : (Ybad.prog.info? 5).map (fun i => (i.zero, i.size, i.bytes)) = some (some (.int .u8 0), 1, 1) := by kernel_rfl

/-- FROM ADDRESS ao ON LIE n BYTES, b i (where there is one at all). -/
def Lies (w : World) (ao : Option Addr) (n : Nat) (b : Nat → Int) : Prop :=
  0 < n → ∃ g off, ao = some ⟨g, off, none⟩ ∧ ∀ i, i < n → w.cell? ⟨g, off + i, none⟩ = some (.int .u8 (b i))

theorem Lies.drewN {w : World} {ao : Option Addr} {n : Nat} {b : Nat → Int} (h : Lies w ao n b) (k : Nat) : Lies (w.drewN k) ao n b := h

/-- 'zzs1815beq' at two slices that hold the same bytes. -/
theorem beq_any (ao bo : Option Addr) (n c1 c2 : Nat) (b : Nat → Int) (w : World) (hn : n ≤ 65536) (ha : Lies w ao n b) (hb : Lies w bo n b) :
    Calls Ybad.prog 9 #[.slice ao n c1, .slice bo n c2] w fun e w' => e = .returned (.bool true) ∧ ∃ q, w' = w.drewN q := by
  have HA : Hid (Lies w ao n b) := ha
  have HB : Hid (Lies w bo n b) := hb
  clear ha hb
  go_enter Ybad.func9, Ybad.ntmps9
  go_wp2
  go_loopw [5] (fun i wr => ∃ k q : Nat, k ≤ n ∧ i = .int .i64 k ∧ wr = w.drewN q) (fun i _ => n - (intOf i).toNat)
  case atStart => exact ⟨0, 0, Nat.zero_le _, rfl, rfl⟩
  case round =>
    obtain ⟨k, q, hk, rfl, rfl⟩ := hrel
    by_cases hlt : k < n
    · obtain ⟨g1, o1, rfl, h1⟩ := HA.out (by omega)
      obtain ⟨g2, o2, rfl, h2⟩ := HB.out (by omega)
      have c1 := h1 k hlt
      have c2 := h2 k hlt
      clear h1 h2
      go_wp2
      go_quiet (fail)
      go_wp2
      go_roundw
      case rel => exact ⟨k + 1, q + _, by omega, by go_num, rfl⟩
      case measure => simp [intOf]; omega
    · go_wp2
      go_ret
      exact ⟨rfl, q, rfl⟩

theorem neq22 (a : Addr) (n c : Nat) (w : World) : (binOp .neq 22 (.slice (some a) n c) (.slice none 0 0)).run Ybad.prog w = .ok (.bool true) w :=
  run_neq_slice_nil_any w 22 5 (some a) n c 0 0 Ybad.underlying22

/-- what peek hands back: n bytes of block g, from place s on; no error. -/
def Peeked (g s n : Nat) (e : Ending) : Prop := ∃ o c, e = .returned (.tuple #[.slice (some ⟨g, o, none⟩) n c, .nilIface]) ∧ (0 < n → o = s)

theorem peek_held (rb hb hl s n : Nat) (offv ha : Int) (w : World) (hsub : wrap64 (offv - ha) = (s : Int)) (hs : s + n ≤ hl) (hl1 : hl ≤ 1024)
    (c1 : w.cell? ⟨rb, 1, none⟩ = some (.int .i64 offv)) (c3 : w.cell? ⟨rb, 3, none⟩ = some (.slice (some ⟨hb, 0, none⟩) hl hl)) (c4 : w.cell? ⟨rb, 4, none⟩ = some (.int .i64 ha)) :
    Calls Ybad.prog 8 #[.pointer (some ⟨rb, 0, none⟩), .int .i64 n] w fun e w' => Peeked hb s n e ∧ ∃ q, w' = w.drewN q := by
  have hq := neq22
  go_enter Ybad.func8, Ybad.ntmps8
  go_wp2
  go_quiet (fail)
  go_wp2
  · go_ret2
    exact ⟨⟨0, 0, rfl, fun h => by omega⟩, _, rfl⟩
  · go_ret2
    exact ⟨⟨s, hl - s, rfl, fun _ => rfl⟩, _, rfl⟩

/-- BLOCK g HOLDS, FROM ITS HEAD ON, THE n BYTES b: the whole block. -/
def Row (w : World) (g n : Nat) (b : Nat → Int) : Prop := w.heap[g]? = some (.cells ((List.range n).map fun i => Value.int .u8 (b i)).toArray 5 (0, 0))

theorem Row.congr {w : World} {g n : Nat} {b b' : Nat → Int} (h : Row w g n b) (e : ∀ i, i < n → b i = b' i) : Row w g n b' := by
  have : ((List.range n).map fun i => Value.int .u8 (b' i)) = (List.range n).map fun i => Value.int .u8 (b i) := List.map_congr_left (fun i hi => by rw [e i (List.mem_range.1 hi)])
  unfold Row
  rw [this]
  exact h

theorem Row.cell {w : World} {g n : Nat} {b : Nat → Int} (h : Row w g n b) (i : Nat) (hi : i < n) : w.cell? ⟨g, i, none⟩ = some (.int .u8 (b i)) := by
  simp [World.cell?, show w.heap[g]? = _ from h, hi]

theorem Row.lt {w : World} {g n : Nat} {b : Nat → Int} (h : Row w g n b) : g < w.heap.size := (Array.getElem?_eq_some_iff.1 (show w.heap[g]? = _ from h)).1

theorem Row.below {B : Nat} {w w' : World} {g n : Nat} {b : Nat → Int} (h : Row w g n b) (hb : Below B w w') (hg : g < B) : Row w' g n b := (hb.block g hg).trans h

theorem Row.lies {w : World} {g n : Nat} {b : Nat → Int} (h : Row w g n b) (s m o : Nat) (hm : s + m ≤ n) (ho : 0 < m → o = s) : Lies w (some ⟨g, o, none⟩) m (fun i => b (s + i)) := by
  intro hp
  obtain rfl := ho hp
  exact ⟨g, o, rfl, fun i hi => h.cell (o + i) (by omega)⟩

/-- a row that was just made, as a block. -/
theorem made_block {w : World} {base g n : Nat} {xs : List Value} (h : w.ownsRow base 5 1 (.slice (some ⟨g, 0, none⟩) n n) n xs) : w.heap[g]? = some (.cells xs.toArray 5 (0, 0)) := by
  obtain ⟨hl, h | ⟨g', cap', cur, h1, _, h2, _, _, h5, h6⟩⟩ := h
  · cases h.1
  · injection h1 with h1 _ h3
    injection h1 with h1
    injection h1 with h1 _ _
    subst h1 h3
    have : cur = xs.toArray := by
      rw [← h6, List.take_of_length_le (by rw [Array.length_toList, h5]; exact Nat.le_refl _)]
    rw [h2, this]

theorem Ybad.size5 : (Ybad.prog.info? 5).map (·.size) = some 1 := by kernel_rfl

theorem add_addr (b o j : Nat) : (⟨b, o, none⟩ : Addr).add j = ⟨b, o + j, none⟩ := by unfold Addr.add; split <;> simp_all

/-- w2 is w but for block g. -/
structure But (g : Nat) (w w2 : World) : Prop where
  os : w2.os = w.os
  tape : w2.tape = w.tape
  output : w2.output = w.output
  size : w2.heap.size = w.heap.size
  block : ∀ k, k ≠ g → w2.heap[k]? = w.heap[k]?

theorem But.below {g B : Nat} {w0 w w2 : World} (h : But g w w2) (hB : B ≤ g) (hb : Below B w0 w) : Below B w0 w2 :=
  hb.trans ⟨h.os, h.tape, h.output, Nat.le_of_eq h.size.symm, fun k hk => h.block k (by omega)⟩
theorem But.cell {g : Nat} {w w2 : World} (h : But g w w2) (k i : Nat) (hk : k ≠ g) : w2.cell? ⟨k, i, none⟩ = w.cell? ⟨k, i, none⟩ := World.cell?_of_block (w := w) (h.block k hk)
theorem But.frozen {g : Nat} {w w2 : World} (h : But g w w2) (k i : Nat) (hk : k ≠ g) : w2.frozen? ⟨k, i, none⟩ = w.frozen? ⟨k, i, none⟩ := World.frozen?_of_block (w := w) (h.block k hk)

theorem list_copy (N o n : Nat) (b z : Nat → Int) (h : o + n ≤ N) :
    ((List.range N).map fun i => Value.int .u8 (b i)).toArray.toList.take o ++ ((List.range n).map fun i => Value.int .u8 (z i)) ++ ((List.range N).map fun i => Value.int .u8 (b i)).toArray.toList.drop (o + n) =
      (List.range N).map fun i => Value.int .u8 (if o ≤ i ∧ i < o + n then z (i - o) else b i) := by
  apply List.ext_getElem?
  intro i
  simp only [List.getElem?_append, List.length_append, List.length_take, List.length_map, List.length_range, List.getElem?_take, List.getElem?_map, List.getElem?_drop]
  by_cases h1 : i < o
  · rw [if_pos (by omega), if_pos (by omega), if_pos h1]
    simp [List.getElem?_range (show i < N from by omega), show ¬ o ≤ i from by omega]
  · by_cases h2 : i < o + n
    · rw [if_pos (by omega), if_neg (by omega)]
      rw [List.getElem?_range (show i - min o N < n from by omega), List.getElem?_range (show i < N from by omega)]
      simp [show o ≤ i from by omega, h2, show min o N = o from by omega]
    · rw [if_neg (by omega)]
      by_cases h3 : i < N
      · rw [List.getElem?_range (show o + n + (i - (min o N + n)) < N from by omega), List.getElem?_range h3]
        simp [h2, show o + n + (i - (min o N + n)) = i from by omega]
      · rw [List.getElem?_eq_none (by simp; omega), List.getElem?_eq_none (by simp; omega)]
        rfl

/-- 'copy(dst, src)': dst lies in block g from place o on, src whatever: the n bytes that go over. -/
theorem copy_bytes (w : World) (g N o n dLen dCap sLen sCap : Nat) (b z : Nat → Int) (dp a0 : Option Addr) (hR : Row w g N b) (hl : Lies w a0 n z) (hn : n = Nat.min sLen dLen) (hfit : o + n ≤ N) (hd : 0 < n → dp = some ⟨g, o, none⟩) :
    ∃ w2, (Builtin.copy_ #[22, 22] 3 #[.slice dp dLen dCap, .slice a0 sLen sCap]).run Ybad.prog w = .ok (goInt n) w2 ∧ Row w2 g N (fun i => if o ≤ i ∧ i < o + n then z (i - o) else b i) ∧ But g w w2 := by
  by_cases h0 : n = 0
  · subst h0
    refine ⟨w, run_copy_none w 22 22 3 5 dp a0 dLen dCap sLen sCap Ybad.underlying22 Ybad.size5 hn.symm, ?_, rfl, rfl, rfl, rfl, fun _ _ => rfl⟩
    have e : (fun i => if o ≤ i ∧ i < o + 0 then z (i - o) else b i) = b := by funext i; rw [if_neg (by omega)]
    rw [e]; exact hR
  · have hp : 0 < n := by omega
    obtain rfl := hd hp
    obtain ⟨sb, so, rfl, hc⟩ := hl hp
    have hR' : w.heap[g]? = some (.cells ((List.range N).map fun i => Value.int .u8 (b i)).toArray 5 (0, 0)) := hR
    have hrun := run_copy_row (P := Ybad.prog) w 22 22 3 5 g o dLen dCap ⟨sb, so, none⟩ sLen sCap _ 5 ((List.range n).map fun i => Value.int .u8 (z i)) Ybad.underlying22 Ybad.size5 hR' (by simpa using hn)
      (fun j v hv => by
        have hj : j < n := by have := (List.getElem?_eq_some_iff.1 hv).1; simpa using this
        have hv' : v = .int .u8 (z j) := by simp [hj] at hv; exact hv.symm
        rw [hv', add_addr]; exact hc j hj) (by simpa using hfit)
      (fun v hv => by obtain ⟨_, _, rfl⟩ := List.mem_map.1 hv; rfl)
    rw [show ((List.range n).map fun i => Value.int .u8 (z i)).length = n from by simp] at hrun
    refine ⟨_, hrun, ?_, rfl, rfl, rfl, by simp [World.setRow], fun k hk => setRow_other w g k _ hk⟩
    show _ = _
    rw [setRow_heap w g _ _ 5 (0, 0) hR', list_copy N o n b z hfit]
end Go.Proofs.YbulkakoiDoor
