import Derived.Test.YbulkakmsCVer
namespace Go.Proofs.Ybulkakms
open Go.RowKit

/-- v reads as l -/
def Seen3 (w : World) (v : Value) (l : List Vc) : Prop :=
  ∃ a c, v = .slice a l.length c ∧ (0 < l.length → ∃ g, a = some ⟨g, 0, none⟩ ∧ g < w.heap.size ∧ ∀ i (hi : i < l.length), ∀ k, k < 3 → w.cell? ⟨g, i * 3 + k, none⟩ = (l[i]).v[k]?)

theorem Seen3.of_owns {w : World} {base : Nat} {v : Value} {l : List Vc} (h : w.ownsRow base 66 3 v l.length (flat3 l)) : Seen3 w v l := by
  have h' := h
  obtain ⟨hl, h0 | ⟨g, cap, cur, rfl, hb, hh, hnc, hcm, hcs, ht⟩⟩ := h
  · obtain ⟨rfl, h0⟩ := h0
    exact ⟨none, 0, by rw [h0], fun hp => by omega⟩
  · refine ⟨_, _, rfl, fun hp => ⟨g, rfl, (Array.getElem?_eq_some_iff.1 hh).1, fun i hi k hk => ?_⟩⟩
    rw [← flat3_get l i k hi hk]
    exact h'.cellAt (i * 3 + k) (by omega)

theorem Seen3.kept {w w' : World} {v : Value} {l : List Vc} (h : Seen3 w v l) (hk : ∀ g off c, v = .slice (some ⟨g, off, none⟩) l.length c → g < w.heap.size → w'.heap[g]? = w.heap[g]?) (hs : w.heap.size ≤ w'.heap.size) : Seen3 w' v l := by
  obtain ⟨a, c, rfl, h1⟩ := h
  refine ⟨a, c, rfl, fun hp => ?_⟩
  obtain ⟨g, rfl, hg, hc⟩ := h1 hp
  exact ⟨g, rfl, by omega, fun i hi k hk3 => (World.cell?_of_block (w := w) (a := ⟨g, _, none⟩) (hk g 0 c rfl hg)).trans (hc i hi k hk3)⟩

theorem Seen3.below {w w' : World} {v : Value} {l : List Vc} (h : Seen3 w v l) (hb : Below w.heap.size w w') : Seen3 w' v l :=
  h.kept (fun g _ _ _ hg => hb.block g hg) hb.size

/-- what the search has shown. -/
def Place (l : List Vc) (a b : Int) (i : Nat) (found : Bool) : Prop :=
  i ≤ l.length ∧ (∀ j (h : j < l.length), j < i → (l[j]).lt a b = true) ∧ (found = true → ∃ h : i < l.length, (l[i]).is a b = true) ∧ (found = false → ∀ h : i < l.length, (l[i]).is a b = false ∧ (l[i]).lt a b = false)

theorem sorted_lt {l : List Vc} (hs : Sorted l) {a b : Int} {m : Nat} (hm : m < l.length) (hx : (l[m]).lt a b = true) : ∀ j (h : j < l.length), j < m + 1 → (l[j]).lt a b = true := fun j h hj => by
  by_cases e : j = m
  · subst e; exact hx
  · have := List.pairwise_iff_getElem.1 hs j m h hm (by omega)
    exact Vc.lt_trans this hx

set_option maxHeartbeats 4000000 in
set_option maxRecDepth 100000 in
theorem find_any (v : Value) (l : List Vc) (key : Vc) (w : World) (hl : l.length ≤ 4096) (hs : Hid (Sorted l)) (hv : Hid (Seen3 w v l)) :
    Calls Yba.prog 23 #[v, .agg key.v, .func (.func 24) #[] #[]] w fun e w' => ∃ (i : Nat) (found : Bool), e = .returned (.tuple #[.int .i64 i, .bool found]) ∧ Below w.heap.size w w' ∧ Place l key.a key.b i found := by
  obtain ⟨a, c, rfl, hc⟩ := hv.out
  have HC := (show Hid _ from hc)
  clear hc hv
  obtain ⟨n, hn⟩ : ∃ n, l.length = n := ⟨_, rfl⟩
  have HN : Hid (l.length = n) := hn
  rw [hn] at hl ⊢
  clear hn
  obtain ⟨ka, kb, kn⟩ := key
  simp only [Vc.v]
  go_enter Yba.func23, Yba.ntmps23
  go_wp2
  go_loopw [9, 10, 11] (fun iv jv _ wr => ∃ i j : Nat, i ≤ j ∧ j ≤ n ∧ iv = .int .i64 i ∧ jv = .int .i64 j ∧ wr.cell? ⟨w.heap.size, 0, none⟩ = some (.int .u16 ka) ∧ wr.cell? ⟨w.heap.size, 1, none⟩ = some (.int .u16 kb) ∧ wr.cell? ⟨w.heap.size, 2, none⟩ = some (.int .i64 kn) ∧ Hid (Below w.heap.size w wr) ∧ Hid ((∀ q (h : q < l.length), q < i → (l[q]).lt ka kb = true) ∧ ∀ h : j < l.length, (l[j]).lt ka kb = false)) (fun iv jv _ _ => (intOf jv).toNat - (intOf iv).toNat)
  case atStart => 
    refine ⟨0, n, Nat.zero_le _, Nat.le_refl _, rfl, rfl, World.cell?_alloc_at _ _ _ _ rfl, World.cell?_alloc_at _ _ _ _ rfl, World.cell?_alloc_at _ _ _ _ rfl, (Below.refl _ _).alloc (Nat.le_refl _) _, fun q _ h => by omega, fun h => ?_⟩
    have := HN.out
    omega
  case round =>
    obtain ⟨i, j, hij, hjn, rfl, rfl, k0, k1, k2, HB, HI⟩ := hrel
    by_cases hlt : i < j
    · go_upto_region 5 with fail
      obtain ⟨m, hm⟩ : ∃ m : Nat, ((i : Int) + (j : Int)) / 2 = (m : Int) := ⟨(((i : Int) + (j : Int)) / 2).toNat, by omega⟩
      rw [hm]
      have him : i ≤ m := by omega
      have hmj : m < j := by omega
      have hmn : m < n := by omega
      have hml : m < l.length := by rw [HN.out]; exact hmn
      obtain ⟨g, rfl, hg, hc⟩ := HC.out (by omega)
      have hck : ∀ k, k < 3 → wr.cell? ⟨g, m * 3 + k, none⟩ = (l[m]).v[k]? := fun k hk => (HB.out.cell (p := ⟨g, _, none⟩) hg).trans (hc m hml k hk)
      obtain ⟨x, hx⟩ : ∃ x, x = l[m] := ⟨_, rfl⟩
      rw [← hx] at hck
      have HX : Hid (x = l[m]) := hx
      obtain ⟨xa, xb, xn⟩ := x
      have q0 : wr.cell? ⟨g, m * 3, none⟩ = some (.int .u16 xa) := hck 0 (by omega)
      have q1 : wr.cell? ⟨g, m * 3 + 1, none⟩ = some (.int .u16 xb) := hck 1 (by omega)
      have q2 : wr.cell? ⟨g, m * 3 + 2, none⟩ = some (.int .i64 xn) := hck 2 (by omega)
      have hgr : g < wr.heap.size := by have := HB.out.size; omega
      have hwr : w.heap.size < wr.heap.size := World.block_lt_of_cell? _ _ k0
      have hcv := ver_any ⟨xa, xb, xn⟩ ⟨ka, kb, kn⟩
      simp only [Vc.v] at hcv
      have HCV := (show Hid _ from hcv)
      have hcmp := cmpV_lt ⟨xa, xb, xn⟩ ⟨ka, kb, kn⟩
      clear hc hck hx hm hcv
      generalize cmpV ⟨xa, xb, xn⟩ ⟨ka, kb, kn⟩ = cv at HCV hcmp
      cases hb : (⟨xa, xb, xn⟩ : Vc).lt ka kb
      · rw [hb] at hcmp
        go_region_held3 (fun w' => w'.cell? ⟨w.heap.size, 0, none⟩ = some (.int .u16 ka) ∧ w'.cell? ⟨w.heap.size, 1, none⟩ = some (.int .u16 kb) ∧ w'.cell? ⟨w.heap.size, 2, none⟩ = some (.int .i64 kn) ∧ w'.cell? ⟨g, m * 3, none⟩ = some (.int .u16 xa) ∧ w'.cell? ⟨g, m * 3 + 1, none⟩ = some (.int .u16 xb) ∧ w'.cell? ⟨g, m * 3 + 2, none⟩ = some (.int .i64 xn)) (first | assumption | go_keep)
          (first
            | (go_at_call 24
               refine (HCV.out _).mono ?_
               rintro e w1 ⟨rfl, hb1⟩
               have hbk : ∀ o, w1.cell? ⟨w.heap.size, o, none⟩ = wr.cell? ⟨w.heap.size, o, none⟩ := fun o => hb1.cell (p := ⟨w.heap.size, o, none⟩) hwr
               have hbg : ∀ o, w1.cell? ⟨g, o, none⟩ = wr.cell? ⟨g, o, none⟩ := fun o => hb1.cell (p := ⟨g, o, none⟩) hgr))
        all_goals
          have HB1 : Hid (Below w.heap.size w w1) := HB.out.drew.trans (hb1.mono HB.out.drew.size)
          have HI2 : Hid ((∀ q (h : q < l.length), q < i → (l[q]).lt ka kb = true) ∧ ∀ h : m < l.length, (l[m]).lt ka kb = false) := ⟨HI.out.1, fun h => by rw [← HX.out]; exact hb⟩
          have k0' := hbk 0
          have k1' := hbk 1
          have k2' := hbk 2
          rw [k0] at k0'
          rw [k1] at k1'
          rw [k2] at k2'
          clear hb1 hbk hbg hb
          go_wp2_with fail
          go_roundw
          case rel => exact ⟨i, m, him, by omega, rfl, rfl, k0', k1', k2', HB1, HI2⟩
          case measure => simp [intOf]; omega
      · rw [hb] at hcmp
        go_region_held3 (fun w' => w'.cell? ⟨w.heap.size, 0, none⟩ = some (.int .u16 ka) ∧ w'.cell? ⟨w.heap.size, 1, none⟩ = some (.int .u16 kb) ∧ w'.cell? ⟨w.heap.size, 2, none⟩ = some (.int .i64 kn) ∧ w'.cell? ⟨g, m * 3, none⟩ = some (.int .u16 xa) ∧ w'.cell? ⟨g, m * 3 + 1, none⟩ = some (.int .u16 xb) ∧ w'.cell? ⟨g, m * 3 + 2, none⟩ = some (.int .i64 xn)) (first | assumption | go_keep)
          (first
            | (go_at_call 24
               refine (HCV.out _).mono ?_
               rintro e w1 ⟨rfl, hb1⟩
               have hbk : ∀ o, w1.cell? ⟨w.heap.size, o, none⟩ = wr.cell? ⟨w.heap.size, o, none⟩ := fun o => hb1.cell (p := ⟨w.heap.size, o, none⟩) hwr
               have hbg : ∀ o, w1.cell? ⟨g, o, none⟩ = wr.cell? ⟨g, o, none⟩ := fun o => hb1.cell (p := ⟨g, o, none⟩) hgr))
        all_goals
          have HB1 : Hid (Below w.heap.size w w1) := HB.out.drew.trans (hb1.mono HB.out.drew.size)
          have HI2 : Hid ((∀ q (h : q < l.length), q < m + 1 → (l[q]).lt ka kb = true) ∧ ∀ h : j < l.length, (l[j]).lt ka kb = false) := ⟨sorted_lt hs.out hml (by rw [← HX.out]; exact hb), HI.out.2⟩
          have k0' := hbk 0
          have k1' := hbk 1
          have k2' := hbk 2
          rw [k0] at k0'
          rw [k1] at k1'
          rw [k2] at k2'
          clear hb1 hbk hbg hb
          go_wp2_with fail
          go_roundw
          case rel => exact ⟨m + 1, j, by omega, hjn, by go_num, rfl, k0', k1', k2', HB1, HI2⟩
          case measure => simp [intOf]; omega
    · obtain rfl : i = j := by omega
      by_cases hin : i < n
      · have hml : i < l.length := by rw [HN.out]; exact hin
        obtain ⟨g, rfl, hg, hc⟩ := HC.out (by omega)
        have hck : ∀ k, k < 3 → wr.cell? ⟨g, i * 3 + k, none⟩ = (l[i]).v[k]? := fun k hk => (HB.out.cell (p := ⟨g, _, none⟩) hg).trans (hc i hml k hk)
        obtain ⟨x, hx⟩ : ∃ x, x = l[i] := ⟨_, rfl⟩
        rw [← hx] at hck
        have HX : Hid (x = l[i]) := hx
        obtain ⟨xa, xb, xn⟩ := x
        have q0 : wr.cell? ⟨g, i * 3, none⟩ = some (.int .u16 xa) := hck 0 (by omega)
        have q1 : wr.cell? ⟨g, i * 3 + 1, none⟩ = some (.int .u16 xb) := hck 1 (by omega)
        have q2 : wr.cell? ⟨g, i * 3 + 2, none⟩ = some (.int .i64 xn) := hck 2 (by omega)
        have hgr : g < wr.heap.size := by have := HB.out.size; omega
        have hwr : w.heap.size < wr.heap.size := World.block_lt_of_cell? _ _ k0
        have hcv := ver_any ⟨xa, xb, xn⟩ ⟨ka, kb, kn⟩
        simp only [Vc.v] at hcv
        have HCV := (show Hid _ from hcv)
        have hcmp : (cmpV ⟨xa, xb, xn⟩ ⟨ka, kb, kn⟩ == 0) = (⟨xa, xb, xn⟩ : Vc).is ka kb := cmpV_eq ⟨xa, xb, xn⟩ ⟨ka, kb, kn⟩
        clear hc hck hx hcv
        generalize cmpV ⟨xa, xb, xn⟩ ⟨ka, kb, kn⟩ = cv at HCV hcmp
        go_upto_region 8 with fail
        go_region_held3 (fun w' => w'.cell? ⟨w.heap.size, 0, none⟩ = some (.int .u16 ka) ∧ w'.cell? ⟨w.heap.size, 1, none⟩ = some (.int .u16 kb) ∧ w'.cell? ⟨w.heap.size, 2, none⟩ = some (.int .i64 kn) ∧ w'.cell? ⟨g, i * 3, none⟩ = some (.int .u16 xa) ∧ w'.cell? ⟨g, i * 3 + 1, none⟩ = some (.int .u16 xb) ∧ w'.cell? ⟨g, i * 3 + 2, none⟩ = some (.int .i64 xn)) (first | assumption | go_keep)
          (first
            | (go_at_call 24
               refine (HCV.out _).mono ?_
               rintro e w1 ⟨rfl, hb1⟩
               have hbk : ∀ o, w1.cell? ⟨w.heap.size, o, none⟩ = wr.cell? ⟨w.heap.size, o, none⟩ := fun o => hb1.cell (p := ⟨w.heap.size, o, none⟩) hwr
               have hbg : ∀ o, w1.cell? ⟨g, o, none⟩ = wr.cell? ⟨g, o, none⟩ := fun o => hb1.cell (p := ⟨g, o, none⟩) hgr))
        all_goals
          have HB1 : Hid (Below w.heap.size w w1) := HB.out.drew.trans (hb1.mono HB.out.drew.size)
          clear hb1 hbk hbg
          go_wp2_with fail
          refine bodyPost_ret (v := .tuple #[.int .i64 i, .bool ((⟨xa, xb, xn⟩ : Vc).is ka kb)]) (by simp [results, Yba.results23, go_sem]) rfl ?_
          refine ⟨i, _, rfl, HB1.out, ?_, HI.out.1, fun hf => ⟨hml, by rw [← HX.out]; exact hf⟩, fun hf h => ⟨by rw [← HX.out]; exact hf, HI.out.2 h⟩⟩
          omega
      · obtain rfl : i = n := by omega
        have hd : decide ((i : Int) < (i : Int)) = false := by simp
        go_upto_region 8 with fail
        go_quiet (fail)
        go_wp2_with fail
        refine bodyPost_ret (v := .tuple #[.int .i64 i, .bool false]) (by simp [results, Yba.results23, go_sem]) rfl ?_
        have hb := HB.out
        have hle := HN.out
        exact ⟨i, false, rfl, ⟨hb.os, hb.tape, hb.output, hb.size, hb.block⟩, by omega, HI.out.1, (fun hf => by cases hf), (fun _ h => by omega)⟩
end Go.Proofs.Ybulkakms
