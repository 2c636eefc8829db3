import Derived.Test.YbulkakoiDoorPlain
namespace Go.Proofs.YbulkakoiDoor
open Go.RowKit

theorem neq49_nil (w : World) : (binOp .neq 49 (.slice none 0 0) (.slice none 0 0)).run Ybad.prog w = .ok (.bool false) w := by kernel_rfl

theorem match_choice_none (tb k : Nat) (c num : Int) (w : World) (h12 : ((k : Int) == 12) = true) (hn0 : 0 ≤ num) (hn1 : num ≤ 4294967295) (htb : tb < w.heap.size) (hk : w.cell? ⟨tb, 1, none⟩ = some (.int .u8 k))
    (hc : w.cell? ⟨tb, 8, none⟩ = some (.slice none 0 0)) (hr : w.cell? ⟨tb, 9, none⟩ = some (.map none)) :
    Calls Ybad.prog 11 #[.pointer (some ⟨tb, 0, none⟩), .agg #[.int .u8 c, .int .u32 num]] w fun e w' => e = .returned (.tuple #[.slice none 0 0, .bool false]) ∧ Below w.heap.size w w' := by
  have hq := neq49_nil
  go_enter Ybad.func11, Ybad.ntmps11
  go_wp2_with fail
  refine (route_none tb c num _ hn0 hn1 (by simp; omega) (by simp [World.cell?_alloc_past, htb, hc]) (by simp [World.cell?_alloc_past, htb, hr])).mono ?_
  rintro e w1 ⟨rfl, hb⟩
  go_wp2
  go_ret2
  exact ⟨rfl, ((Below.refl _ _).alloc (Nat.le_refl _) _).trans (hb.mono (by simp))⟩

theorem ctag_int (z : Int) (k : Nat) (hz : z = k) (hk : k < 16) (w : World) : Calls Ybad.prog 12 #[.int .u8 z] w fun e w' => e = .returned (.int .u32 (tagN k)) ∧ w' = w := by
  subst hz; exact ctag_any k hk w

/-- what Match answers of a type without routes. -/
def plainOk (j : Nat) (c num : Int) : Bool := if j = 12 then false else if j = 15 then true else c == 0 && num == tagN j

/-- what the call of Match leaves in the law. -/
structure After (w w1 : World) (c num : Int) : Prop where
  c0 : w1.cell? ⟨w.heap.size + 1, 0, none⟩ = some (.int .u8 c)
  c1 : w1.cell? ⟨w.heap.size + 1, 1, none⟩ = some (.int .u32 num)
  below : Below w.heap.size w w1

theorem law_match (j : Nat) (c num : Int) (w : World) (hj16 : j < 16) (hn0 : 0 ≤ num) (hn1 : num ≤ 4294967295) (h3 : 3 < w.heap.size) (hcell : w.cell? ⟨3, j * 4 + 1, none⟩ = some (.int .u32 (tagN j))) :
    Calls Ybad.prog 11 #[.pointer (some ⟨w.heap.size, 0, none⟩), .agg #[.int .u8 c, .int .u32 num]] ((w.alloc (.cells #[.string ⟨#[]⟩, .int .u8 j, .int .i64 0, .slice none 0 0, .pointer none, .slice none 0 0, .pointer none, .pointer none, .slice none 0 0, .map none, .string ⟨#[]⟩, .pointer none, .string ⟨#[]⟩, .int .i64 0, .int .u8 0] 59)).alloc (.cells #[.int .u8 c, .int .u32 num] 41))
      fun e w1 => e = .returned (.tuple #[.slice none 0 0, .bool (plainOk j c num)]) ∧ After w w1 c num := by
  have htb : w.heap.size < ((w.alloc (.cells #[.string ⟨#[]⟩, .int .u8 j, .int .i64 0, .slice none 0 0, .pointer none, .slice none 0 0, .pointer none, .pointer none, .slice none 0 0, .map none, .string ⟨#[]⟩, .pointer none, .string ⟨#[]⟩, .int .i64 0, .int .u8 0] 59)).alloc (.cells #[.int .u8 c, .int .u32 num] 41)).heap.size := by simp; omega
  have h3' : 3 < ((w.alloc (.cells #[.string ⟨#[]⟩, .int .u8 j, .int .i64 0, .slice none 0 0, .pointer none, .slice none 0 0, .pointer none, .pointer none, .slice none 0 0, .map none, .string ⟨#[]⟩, .pointer none, .string ⟨#[]⟩, .int .i64 0, .int .u8 0] 59)).alloc (.cells #[.int .u8 c, .int .u32 num] 41)).heap.size := by simp; omega
  have hk : ((w.alloc (.cells #[.string ⟨#[]⟩, .int .u8 j, .int .i64 0, .slice none 0 0, .pointer none, .slice none 0 0, .pointer none, .pointer none, .slice none 0 0, .map none, .string ⟨#[]⟩, .pointer none, .string ⟨#[]⟩, .int .i64 0, .int .u8 0] 59)).alloc (.cells #[.int .u8 c, .int .u32 num] 41)).cell? ⟨w.heap.size, 1, none⟩ = some (.int .u8 j) := by simp
  have hc : ((w.alloc (.cells #[.string ⟨#[]⟩, .int .u8 j, .int .i64 0, .slice none 0 0, .pointer none, .slice none 0 0, .pointer none, .pointer none, .slice none 0 0, .map none, .string ⟨#[]⟩, .pointer none, .string ⟨#[]⟩, .int .i64 0, .int .u8 0] 59)).alloc (.cells #[.int .u8 c, .int .u32 num] 41)).cell? ⟨w.heap.size, 8, none⟩ = some (.slice none 0 0) := by simp
  have hr : ((w.alloc (.cells #[.string ⟨#[]⟩, .int .u8 j, .int .i64 0, .slice none 0 0, .pointer none, .slice none 0 0, .pointer none, .pointer none, .slice none 0 0, .map none, .string ⟨#[]⟩, .pointer none, .string ⟨#[]⟩, .int .i64 0, .int .u8 0] 59)).alloc (.cells #[.int .u8 c, .int .u32 num] 41)).cell? ⟨w.heap.size, 9, none⟩ = some (.map none) := by simp
  have ht : ((w.alloc (.cells #[.string ⟨#[]⟩, .int .u8 j, .int .i64 0, .slice none 0 0, .pointer none, .slice none 0 0, .pointer none, .pointer none, .slice none 0 0, .map none, .string ⟨#[]⟩, .pointer none, .string ⟨#[]⟩, .int .i64 0, .int .u8 0] 59)).alloc (.cells #[.int .u8 c, .int .u32 num] 41)).cell? ⟨3, j * 4 + 1, none⟩ = some (.int .u32 (tagN j)) := by
    rw [World.cell?_alloc_past _ _ _ (by simp; omega), World.cell?_alloc_past _ _ _ h3]; exact hcell
  have d0 : ((w.alloc (.cells #[.string ⟨#[]⟩, .int .u8 j, .int .i64 0, .slice none 0 0, .pointer none, .slice none 0 0, .pointer none, .pointer none, .slice none 0 0, .map none, .string ⟨#[]⟩, .pointer none, .string ⟨#[]⟩, .int .i64 0, .int .u8 0] 59)).alloc (.cells #[.int .u8 c, .int .u32 num] 41)).cell? ⟨w.heap.size + 1, 0, none⟩ = some (.int .u8 c) := by simp
  have d1 : ((w.alloc (.cells #[.string ⟨#[]⟩, .int .u8 j, .int .i64 0, .slice none 0 0, .pointer none, .slice none 0 0, .pointer none, .pointer none, .slice none 0 0, .map none, .string ⟨#[]⟩, .pointer none, .string ⟨#[]⟩, .int .i64 0, .int .u8 0] 59)).alloc (.cells #[.int .u8 c, .int .u32 num] 41)).cell? ⟨w.heap.size + 1, 1, none⟩ = some (.int .u32 num) := by simp
  have hbl : Below w.heap.size w ((w.alloc (.cells #[.string ⟨#[]⟩, .int .u8 j, .int .i64 0, .slice none 0 0, .pointer none, .slice none 0 0, .pointer none, .pointer none, .slice none 0 0, .map none, .string ⟨#[]⟩, .pointer none, .string ⟨#[]⟩, .int .i64 0, .int .u8 0] 59)).alloc (.cells #[.int .u8 c, .int .u32 num] 41)) := ((Below.refl _ _).alloc (Nat.le_refl _) _).alloc (by simp) _
  have hsz : ((w.alloc (.cells #[.string ⟨#[]⟩, .int .u8 j, .int .i64 0, .slice none 0 0, .pointer none, .slice none 0 0, .pointer none, .pointer none, .slice none 0 0, .map none, .string ⟨#[]⟩, .pointer none, .string ⟨#[]⟩, .int .i64 0, .int .u8 0] 59)).alloc (.cells #[.int .u8 c, .int .u32 num] 41)).heap.size = w.heap.size + 2 := by simp
  generalize ((w.alloc (.cells #[.string ⟨#[]⟩, .int .u8 j, .int .i64 0, .slice none 0 0, .pointer none, .slice none 0 0, .pointer none, .pointer none, .slice none 0 0, .map none, .string ⟨#[]⟩, .pointer none, .string ⟨#[]⟩, .int .i64 0, .int .u8 0] 59)).alloc (.cells #[.int .u8 c, .int .u32 num] 41)) = W at htb h3' hk hc hr ht d0 d1 hbl hsz ⊢
  have fin : ∀ w1, Below W.heap.size W w1 → After w w1 c num := fun w1 hb =>
    ⟨(hb.cell (p := ⟨w.heap.size + 1, 0, none⟩) (by rw [hsz]; exact Nat.lt_succ_self _)).trans d0, (hb.cell (p := ⟨w.heap.size + 1, 1, none⟩) (by rw [hsz]; exact Nat.lt_succ_self _)).trans d1, hbl.trans (hb.mono (by omega))⟩
  by_cases e12 : j = 12
  · refine (match_choice_none w.heap.size j c num W (by simp [e12]) hn0 hn1 htb hk hc hr).mono ?_
    rintro e w1 ⟨rfl, hb⟩
    exact ⟨by simp [plainOk, e12], fin w1 hb⟩
  by_cases e15 : j = 15
  · refine (match_any w.heap.size j c num W (by rw [beq_eq_false_iff_ne]; omega) (by simp [e15]) htb hk).mono ?_
    rintro e w1 ⟨rfl, hb⟩
    exact ⟨by simp [plainOk, e15], fin w1 hb⟩
  · refine (match_plain w.heap.size j (tagN j) c num W hj16 (by rw [beq_eq_false_iff_ne]; omega) (by rw [beq_eq_false_iff_ne]; omega) htb h3' hk ht).mono ?_
    rintro e w1 ⟨rfl, hb⟩
    exact ⟨by simp [plainOk, e12, e15], fin w1 hb⟩

set_option maxHeartbeats 1000000 in
theorem plain_any (k cl num : Int) (w : World) (hk0 : 0 ≤ k) (hk1 : k ≤ 255) (hc0 : 0 ≤ cl) (hc1 : cl ≤ 255) (hn0 : 0 ≤ num) (hn1 : num ≤ 4294967295) (h3 : 3 < w.heap.size)
    (hT : Hid (∀ j : Nat, j < 16 → w.cell? ⟨3, j * 4 + 1, none⟩ = some (.int .u32 (tagN j)))) :
    Calls Ybad.prog 5 #[.int .u8 k, .int .u8 cl, .int .u32 num] w fun e w' => e = .returned (.bool true) ∧ Below w.heap.size w w' := by
  have hq := neq49_nil
  obtain ⟨j, hj⟩ : ∃ j : Nat, k % 16 = (j : Int) := ⟨(k % 16).toNat, by omega⟩
  have hj16 : j < 16 := by omega
  have hcell := hT.out j hj16
  clear hT
  by_cases e12 : j = 12
  · have h12 : ((j : Int) == 12) = true := by simp [e12]
    have hok : plainOk j (cl % 4) num = false := by simp [plainOk, e12]
    clear e12
    go_enter Ybad.func5, Ybad.ntmps5
    go_wp2_with fail
    refine (law_match j (cl % 4) num w hj16 hn0 hn1 h3 hcell).mono ?_
    rintro e w1 ⟨rfl, ha⟩
    go_wp2
    go_ret
    exact ⟨rfl, ha.below⟩
  have h12 : ((j : Int) == 12) = false := by rw [beq_eq_false_iff_ne]; omega
  by_cases e15 : j = 15
  · have h15 : ((j : Int) == 15) = true := by simp [e15]
    have hok : plainOk j (cl % 4) num = true := by simp [plainOk, e15]
    clear e12 e15
    go_enter Ybad.func5, Ybad.ntmps5
    go_wp2_with fail
    refine (law_match j (cl % 4) num w hj16 hn0 hn1 h3 hcell).mono ?_
    rintro e w1 ⟨rfl, ha⟩
    go_wp2
    go_ret
    exact ⟨rfl, ha.below⟩
  have h15 : ((j : Int) == 15) = false := by rw [beq_eq_false_iff_ne]; omega
  by_cases e0 : cl % 4 = 0
  · have hcl : (cl % 4 == 0) = true := by simp [e0]
    have hok : plainOk j (cl % 4) num = (num == tagN j) := by simp [plainOk, e12, e15, e0]
    clear e12 e15 e0
    go_enter Ybad.func5, Ybad.ntmps5
    go_wp2_with fail
    refine (law_match j (cl % 4) num w hj16 hn0 hn1 h3 hcell).mono ?_
    rintro e w1 ⟨rfl, ha⟩
    have c0 := ha.c0
    have c1 := ha.c1
    go_wp2
    go_quiet ((go_at_call 12; exact Calls.quiet_of_same (ctag_int _ j (by first | rfl | exact hj) hj16 _)))
    go_wp2
    go_ret
    exact ⟨by simp, below_drewN ha.below _⟩
  · have hcl : (cl % 4 == 0) = false := by rw [beq_eq_false_iff_ne]; exact e0
    have hok : plainOk j (cl % 4) num = false := by simp [plainOk, e12, e15, hcl]
    clear e12 e15 e0
    go_enter Ybad.func5, Ybad.ntmps5
    go_wp2_with fail
    refine (law_match j (cl % 4) num w hj16 hn0 hn1 h3 hcell).mono ?_
    rintro e w1 ⟨rfl, ha⟩
    have c0 := ha.c0
    have c1 := ha.c1
    go_wp2
    go_quiet (fail)
    go_wp2
    go_ret
    exact ⟨by simp, below_drewN ha.below _⟩
end Go.Proofs.YbulkakoiDoor
