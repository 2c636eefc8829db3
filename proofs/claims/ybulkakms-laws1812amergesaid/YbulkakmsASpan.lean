import Derived.Test.YbulkakmsProg
import Derived.WalkKit
import Derived.WalkSpells
import Derived.WalkSmall
import Derived.Deep.QuietTactic
import Derived.BigQuiet
import Derived.Deep.LoopGhost
import Derived.Deep.RegionWith
import Derived.Deep.RegionHeld3
import Derived.Deep.DeepCutAuto
namespace Go.Proofs.Ybulkakms
open Go.RowKit

/-- a span as the law has it. -/
structure Sp where
  dir : Int
  f : Int
  l : Int
  nm : Int
  par : Int
  ar : Bool
  rn : Bool

def Sp.ok (s : Sp) : Prop := 0 ≤ s.dir ∧ s.dir ≤ 255 ∧ 0 ≤ s.nm ∧ s.nm ≤ 255 ∧ 0 ≤ s.par ∧ s.par ≤ 255
def Sp.v (s : Sp) : Array Value := #[.int .u8 s.dir, .int .i64 s.f, .int .i64 s.l, .int .u8 s.nm, .int .u8 s.par, .bool s.ar, .bool s.rn]

/-- a dirSpan. -/
structure DS where
  f : Int
  l : Int
  nm : Int
  par : Int
  ar : Bool
  rn : Bool

def nmS (k : Int) : ByteArray := if k = 0 then ⟨#[97]⟩ else if k = 1 then ⟨#[98]⟩ else ⟨#[99]⟩
def DS.v (d : DS) : Array Value := #[.int .i64 d.f, .int .i64 d.l, (.string (nmS d.nm)), .int .u64 0, .int .u64 d.par, .bool d.ar, .bool d.rn]
def Sp.ds (s : Sp) : DS := ⟨s.f, s.l, s.nm % 3, s.par % 2, s.ar, s.rn⟩

theorem aname_any (k : Int) (w : World) (h0 : 0 ≤ k) (h1 : k ≤ 255) : Calls Yba.prog 22 #[.int .u8 k] w fun e w' => e = .returned (.string (nmS (k % 3))) ∧ w' = w := by
  by_cases a0 : k % 3 = 0
  · have b0 : (k % 3 == 0) = true := by simp [a0]
    have e : nmS (k % 3) = ⟨#[97]⟩ := by simp [nmS, a0]
    rw [e]
    clear a0 e
    go_enter Yba.func22, Yba.ntmps22
    go_wp2
    go_ret
    exact ⟨rfl, rfl⟩
  have b0 : (k % 3 == 0) = false := by simp [a0]
  by_cases a1 : k % 3 = 1
  · have b1 : (k % 3 == 1) = true := by simp [a1]
    have e : nmS (k % 3) = ⟨#[98]⟩ := by simp [nmS, a1]
    rw [e]
    clear a0 a1 e
    go_enter Yba.func22, Yba.ntmps22
    go_wp2
    go_ret
    exact ⟨rfl, rfl⟩
  · have b1 : (k % 3 == 1) = false := by simp [a1]
    have e : nmS (k % 3) = ⟨#[99]⟩ := by simp [nmS, a0, a1]
    rw [e]
    clear a0 a1 e
    go_enter Yba.func22, Yba.ntmps22
    go_wp2
    go_ret
    exact ⟨rfl, rfl⟩

set_option maxHeartbeats 2000000 in
theorem aspan_any (s : Sp) (w : World) (h : s.ok) : Calls Yba.prog 17 #[.agg s.v] w fun e w' => e = .returned (.agg s.ds.v) ∧ Below w.heap.size w w' := by
  obtain ⟨_, _, h0, h1, h2, h3⟩ := h
  obtain ⟨dir, f, l, nm, par, ar, rn⟩ := s
  simp only [Sp.v, Sp.ds, DS.v] at *
  go_enter Yba.func17, Yba.ntmps17
  go_upto_region 1 with fail
  go_region_held3 (fun w' => w'.cell? ⟨w.heap.size, 1, none⟩ = some (.int .i64 f) ∧ w'.cell? ⟨w.heap.size, 2, none⟩ = some (.int .i64 l) ∧ w'.cell? ⟨w.heap.size, 3, none⟩ = some (.int .u8 nm) ∧ w'.cell? ⟨w.heap.size, 4, none⟩ = some (.int .u8 par) ∧ w'.cell? ⟨w.heap.size, 5, none⟩ = some (.bool ar) ∧ w'.cell? ⟨w.heap.size, 6, none⟩ = some (.bool rn)) (go_keep)
    ((go_at_call 22; refine (aname_any nm _ h0 h1).mono ?_; rintro e w' ⟨rfl, rfl⟩))
  all_goals
    have hw : IntKind.u64.wrap (par.tmod 2) = par % 2 := by
      rw [Int.tmod_eq_emod_of_nonneg h2]
      exact IntWalk.u64_in _ (by omega)
    simp only [hw]
    go_wp2
    refine bodyPost_ret (v := .agg #[.int .i64 f, .int .i64 l, .string (nmS (nm % 3)), .int .u64 0, .int .u64 (par % 2), .bool ar, .bool rn]) (by simp [results, Yba.results17, go_sem]) rfl ?_
    exact ⟨rfl, (((Below.refl _ _).alloc (Nat.le_refl _) _).alloc (by simp) _).drew⟩
end Go.Proofs.Ybulkakms
