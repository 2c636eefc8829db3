import Derived.Test.YbulkakmsCMerge
namespace Go.Proofs.Ybulkakms
open Go.RowKit

theorem assert68 (v : Value) (w : World) : (Instr.typeAssert (.iface 68 v) 87 68 false).run Yba.prog w = .ok v w := by kernel_rfl

def joinS (tt : Int) (s t : Sm) : Sm := if tt < 0 then mergeS s t else s
def joinL (tt : Int) (l m : List Vc) : List Vc := if tt < 0 then addAll l m else l

set_option maxHeartbeats 2000000 in
set_option maxRecDepth 100000 in
theorem sjoin_any (S T : Nat) (s t : Sm) (v u : Value) (l m : List Vc) (tt : Int) (w : World) (hl : l.length + m.length ≤ 4000) (hs : Hid (Sorted l)) (hm : Hid (∀ x ∈ m, x.ok)) (h : Hid (SumAt w S s v l)) (ht : Hid (SumAt w T t u m)) (ha : Hid (Apart S T v u)) :
    Calls Yba.prog 13 #[.pointer (some ⟨S, 0, none⟩), .iface 68 (.pointer (some ⟨T, 0, none⟩)), .int .i64 tt] w fun e w' => e = .returned .nilIface ∧ ∃ v', SumAt w' S (joinS tt s t) v' (joinL tt l m) ∧ Kept w w' S v ∧ Loc w v v' := by
  have ha68 := assert68
  by_cases htt : tt < 0
  · have e1 : joinS tt s t = mergeS s t := if_pos htt
    have e2 : joinL tt l m = addAll l m := if_pos htt
    rw [e1, e2]
    have hb : decide (tt < 0) = true := by simp [htt]
    go_enter Yba.func13, Yba.ntmps13
    go_wp2_with fail
    refine (merge_sum S T s t v u l m w hl hs hm h ht ha).mono ?_
    rintro e w1 ⟨rfl, hr⟩
    have HR : Hid (type_of% hr) := hr
    clear hr
    go_wp2
    go_ret
    exact ⟨rfl, HR.out⟩
  · have e1 : joinS tt s t = s := if_neg htt
    have e2 : joinL tt l m = l := if_neg htt
    rw [e1, e2]
    have hb : decide (tt < 0) = false := by simp [htt]
    go_enter Yba.func13, Yba.ntmps13
    go_wp2
    go_ret
    exact ⟨rfl, v, h.out, Kept.refl _ _ _, Loc.refl _ _⟩
end Go.Proofs.Ybulkakms
