import Derived.Test.YbulkakmsCPlain
namespace Go.Proofs.Ybulkakms
open Go.RowKit

def cmpI (x y : Int) : Int := if x < y then -1 else if y < x then 1 else 0

theorem nan_any (x : Int) (w : World) : Calls Yba.prog 30 #[.int .u16 x] w fun e w' => e = .returned (.bool false) ∧ w' = w := by
  go_enter Yba.func30, Yba.ntmps30
  go_wp2
  go_ret
  exact ⟨by simp, rfl⟩

theorem cmp_any (x y : Int) (w : World) : Calls Yba.prog 27 #[.int .u16 x, .int .u16 y] w fun e w' => e = .returned (.int .i64 (cmpI x y)) ∧ w' = w := by
  rcases Int.lt_trichotomy x y with h | h | h
  · have e : cmpI x y = -1 := by simp [cmpI, h]
    rw [e]
    go_enter Yba.func27, Yba.ntmps27
    go_wp2_with fail
    refine (nan_any x w).mono ?_
    rintro e w1 ⟨rfl, rfl⟩
    go_wp2_with fail
    refine (nan_any y w1).mono ?_
    rintro e w1 ⟨rfl, rfl⟩
    go_wp2
    go_ret
    exact ⟨rfl, rfl⟩
  · subst h
    have e : cmpI x x = 0 := by simp [cmpI]
    rw [e]
    go_enter Yba.func27, Yba.ntmps27
    go_wp2_with fail
    refine (nan_any x w).mono ?_
    rintro e w1 ⟨rfl, rfl⟩
    go_wp2_with fail
    refine (nan_any x w1).mono ?_
    rintro e w1 ⟨rfl, rfl⟩
    go_wp2
    go_ret
    exact ⟨rfl, rfl⟩
  · have e : cmpI x y = 1 := by simp [cmpI, h]; omega
    have h2 : ¬ x < y := by omega
    rw [e]
    go_enter Yba.func27, Yba.ntmps27
    go_wp2_with fail
    refine (nan_any x w).mono ?_
    rintro e w1 ⟨rfl, rfl⟩
    go_wp2_with fail
    refine (nan_any y w1).mono ?_
    rintro e w1 ⟨rfl, rfl⟩
    go_wp2
    go_ret
    exact ⟨rfl, rfl⟩

def orI (p q : Int) : Int := if p = 0 then q else p

theorem or_any (g : Nat) (p q : Int) (w : World) (h0 : w.cell? ⟨g, 0, none⟩ = some (.int .i64 p)) (h1 : w.cell? ⟨g, 1, none⟩ = some (.int .i64 q)) :
    Calls Yba.prog 26 #[.slice (some ⟨g, 0, none⟩) 2 2] w fun e w' => e = .returned (.int .i64 (orI p q)) ∧ w' = w := by
  go_enter Yba.func26, Yba.ntmps26
  go_wp2
  go_loop [5, 8] (fun _ iv => ∃ i : Nat, i ≤ 2 ∧ iv = .int .i64 i ∧ Hid ((1 ≤ i → p = 0) ∧ (2 ≤ i → q = 0))) (fun _ iv => 2 - (intOf iv).toNat)
  case atStart => exact ⟨0, by omega, rfl, fun h => by omega, fun h => by omega⟩
  case round =>
    obtain ⟨i, hi, rfl, hz⟩ := hrel
    have hi3 : i = 0 ∨ i = 1 ∨ i = 2 := by omega
    rcases hi3 with rfl | rfl | rfl
    · by_cases hp : p = 0
      · have hb : (p != 0) = false := by simp [hp]
        have HP : Hid (p = 0) := hp
        clear hp
        go_wp2
        go_round
        case rel => exact ⟨1, by omega, by go_num, fun _ => HP.out, fun h => by omega⟩
        case measure => simp [intOf]
      · have e : orI p q = p := by simp [orI, hp]
        have hb : (p != 0) = true := by simp [hp]
        clear hp
        go_wp2
        go_ret
        exact ⟨by first | rfl | simp [e], rfl⟩
    · have hp := hz.out.1 (by omega)
      have e : orI p q = q := by simp [orI, hp]
      clear hp
      by_cases hp : q = 0
      · have hb : (q != 0) = false := by simp [hp]
        have HP : Hid (q = 0) := hp
        clear hp
        go_wp2
        go_round
        case rel => exact ⟨2, by omega, by go_num, fun _ => hz.out.1 (by omega), fun _ => HP.out⟩
        case measure => simp [intOf]
      · have hb : (q != 0) = true := by simp [hp]
        clear hp
        go_wp2
        go_ret
        exact ⟨by first | rfl | simp [e], rfl⟩
    · have hp := hz.out.1 (by omega)
      have hq := hz.out.2 (by omega)
      have e : orI p q = 0 := by simp [orI, hp, hq]
      clear hp hq
      go_wp2
      go_ret
      exact ⟨by first | rfl | simp [e], rfl⟩
end Go.Proofs.Ybulkakms
