import Derived.Test.YbulkakmsCIns1
namespace Go.Proofs.Ybulkakms
open Go.RowKit

theorem news_x {w : World} {vb : Nat} {x : Vc} (hx : w.heap[vb]? = some (.cells x.v 66)) : ∀ j u, (flat3 [x])[j]? = some u → w.cell? ((⟨vb, 0, none⟩ : Addr).add j) = some u := by
  have : flat3 [x] = x.v.toList := by simp [flat3]
  rw [this]
  exact World.news_of_block hx

set_option maxHeartbeats 4000000 in
set_option maxRecDepth 100000 in
/-- slices.Insert at the end. -/
theorem ins_end (base : Nat) (v : Value) (l : List Vc) (x : Vc) (vb : Nat) (w : World) (hl : l.length ≤ 4096) (hown : Hid (w.ownsRow base 66 3 v l.length (flat3 l))) (hx : Hid (w.heap[vb]? = some (.cells x.v 66))) (hb : base ≤ w.heap.size) :
    Calls Yba.prog 25 #[v, .int .i64 (l.length : Nat), .slice (some ⟨vb, 0, none⟩) 1 1] w fun e w' => ∃ v', e = .returned v' ∧ Put w w' base v v' (l ++ [x]) := by
  obtain ⟨i0, hi, hz0, hz1, hz2⟩ := info66
  obtain ⟨v', w', hr, h2, h3, _, h5⟩ := run_append_own_at (P := Yba.prog) w base 61 61 66 i0 _ 3 16 Yba.underlying61 hi hz0 hz1 hz2 rfl (by decide) v l.length (flat3 l) hown.out ⟨vb, 0, none⟩ 1 1 (flat3 [x]) (flat3_length [x]) (news_x hx.out) (flat3_one _) (by unfold maxLen; omega) (by omega) hb
  have HP : Hid (Put w w' base v v' (l ++ [x])) := ⟨by rw [List.length_append, flat3_append]; exact h2, h3, by
    rcases h5 with h5 | h5
    · exact .inl h5
    · exact .inr ⟨_, h5, Nat.le_refl _⟩⟩
  have HR : Hid ((Builtin.append_ #[61, 61] 61 #[v, .slice (some ⟨vb, 0, none⟩) 1 1]).run Yba.prog w = .ok v' w') := hr
  obtain ⟨a, c, hv, hc⟩ : ∃ a c, v = .slice a l.length c ∧ l.length ≤ c := by
    obtain ⟨_, ⟨h0, hn⟩ | ⟨g, cap, cur, h0, _, _, h1, _⟩⟩ := hown.out
    · exact ⟨none, 0, by rw [h0, hn], by omega⟩
    · exact ⟨_, _, h0, h1⟩
  subst hv
  clear hr h2 h3 h5 hi hz0 hz1 hz2 hown hx
  generalize l.length = n at hl hc HR HP ⊢
  by_cases hcn : c = n
  · go_enter Yba.func25, Yba.ntmps25
    go_wp2_with (at_builtin; refine wpList_app_eq HR.out rfl _ _ rfl (by first | rfl | simp [Act.eval]) (by first | rfl | simp [Act.eval]) ?_)
    go_ret
    exact ⟨_, rfl, HP.out⟩
  · go_enter Yba.func25, Yba.ntmps25
    go_wp2_with (at_builtin; refine wpList_app_eq HR.out rfl _ _ rfl (by first | rfl | simp [Act.eval]) (by first | rfl | simp [Act.eval]) ?_)
    go_ret
    exact ⟨_, rfl, HP.out⟩
end Go.Proofs.Ybulkakms
