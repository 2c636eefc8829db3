import Derived.Test.YbulkakoiDoorBytes
import Derived.RegionTactic
import Derived.BigRegion
namespace Go.Proofs.YbulkakoiDoor
open Go.RowKit

/-- BLOCK g HOLDS JUST THESE CELLS, none frozen. -/
def Blk (w : World) (g : Nat) (cs : Array Value) (t : TypeId) : Prop := w.heap[g]? = some (.cells cs t (0, 0))

theorem Blk.cell {w : World} {g : Nat} {cs : Array Value} {t : TypeId} (h : Blk w g cs t) (i : Nat) : w.cell? ⟨g, i, none⟩ = cs[i]? := by
  simp [World.cell?, show w.heap[g]? = _ from h]
theorem Blk.free {w : World} {g : Nat} {cs : Array Value} {t : TypeId} (h : Blk w g cs t) (i : Nat) : w.frozen? ⟨g, i, none⟩ = false := by
  simp [World.frozen?, show w.heap[g]? = _ from h]
theorem Blk.lt {w : World} {g : Nat} {cs : Array Value} {t : TypeId} (h : Blk w g cs t) : g < w.heap.size := (Array.getElem?_eq_some_iff.1 (show w.heap[g]? = _ from h)).1
theorem Blk.set {w : World} {g : Nat} {cs : Array Value} {t : TypeId} (h : Blk w g cs t) (i : Nat) (v : Value) : Blk (w.setCell ⟨g, i, none⟩ v) g (cs.setIfInBounds i v) t := heap_setCell_same w g i cs t v h

/-- w' is w but for the blocks on the list. -/
structure Oth (gs : List Nat) (w w' : World) : Prop where
  os : w'.os = w.os
  tape : w'.tape = w.tape
  output : w'.output = w.output
  size : w'.heap.size = w.heap.size
  block : ∀ k, k ∉ gs → w'.heap[k]? = w.heap[k]?

theorem Oth.refl (gs : List Nat) (w : World) : Oth gs w w := ⟨rfl, rfl, rfl, rfl, fun _ _ => rfl⟩
theorem Oth.drewN {gs : List Nat} {w w' : World} (h : Oth gs w w') (k : Nat) : Oth gs w (w'.drewN k) := ⟨h.os, h.tape, h.output, h.size, h.block⟩
theorem Oth.drew {gs : List Nat} {w w' : World} (h : Oth gs w w') : Oth gs w w'.drew := ⟨h.os, h.tape, h.output, h.size, h.block⟩
theorem Oth.setCell {gs : List Nat} {w w' : World} (h : Oth gs w w') {g : Nat} (hg : g ∈ gs) (i : Nat) (v : Value) : Oth gs w (w'.setCell ⟨g, i, none⟩ v) :=
  ⟨h.os, h.tape, h.output, by simpa using h.size, fun k hk => (Below.heap_setCell w' ⟨g, i, none⟩ v k (fun e => hk (by rw [e]; exact hg))).trans (h.block k hk)⟩
theorem Oth.setRow {gs : List Nat} {w w' : World} (h : Oth gs w w') {g : Nat} (hg : g ∈ gs) (X : Array Value) : Oth gs w (w'.setRow g X) :=
  ⟨h.os, h.tape, h.output, by simpa [World.setRow] using h.size, fun k hk => (setRow_other w' g k X (fun e => hk (by rw [e]; exact hg))).trans (h.block k hk)⟩
theorem Oth.trans {gs : List Nat} {w w' w2 : World} (h : Oth gs w w') (k : Oth gs w' w2) : Oth gs w w2 :=
  ⟨k.os.trans h.os, k.tape.trans h.tape, k.output.trans h.output, k.size.trans h.size, fun g hg => (k.block g hg).trans (h.block g hg)⟩
theorem Oth.mono {gs hs : List Nat} {w w' : World} (h : Oth gs w w') (hh : ∀ g ∈ gs, g ∈ hs) : Oth hs w w' :=
  ⟨h.os, h.tape, h.output, h.size, fun g hg => h.block g (fun k => hg (hh g k))⟩
theorem Oth.blk {gs : List Nat} {w w' : World} (h : Oth gs w w') {g : Nat} (hg : g ∉ gs) {cs : Array Value} {t : TypeId} (hb : Blk w g cs t) : Blk w' g cs t := (h.block g hg).trans hb
theorem Oth.row {gs : List Nat} {w w' : World} (h : Oth gs w w') {g n : Nat} (hg : g ∉ gs) {b : Nat → Int} (hb : Row w g n b) : Row w' g n b := (h.block g hg).trans hb
theorem Oth.cell {gs : List Nat} {w w' : World} (h : Oth gs w w') {g : Nat} (hg : g ∉ gs) (i : Nat) : w'.cell? ⟨g, i, none⟩ = w.cell? ⟨g, i, none⟩ := World.cell?_of_block (w := w) (h.block g hg)
theorem Oth.below {gs : List Nat} {w0 w w' : World} (h : Oth gs w w') {B : Nat} (hB : ∀ g ∈ gs, B ≤ g) (hb : Below B w0 w) : Below B w0 w' :=
  hb.trans ⟨h.os, h.tape, h.output, Nat.le_of_eq h.size.symm, fun k hk => h.block k (fun hm => by have := hB k hm; omega)⟩

/-- what the buffer holds once k bytes have been read. -/
def upTo (z : Nat → Int) (k : Nat) : Nat → Int := fun i => if i < k then z i else 0

/-- the source, and the buffer into which it has been read. -/
structure Src (w : World) (N D S U n c k : Nat) (z : Nat → Int) : Prop where
  d : Row w D n z
  s : Blk w S #[.slice (some ⟨D, 0, none⟩) n n, .int .i64 k, .int .i64 c] 26
  u : Row w U N (upTo z k)

theorem Src.of_heap {w w' : World} {N D S U n c k : Nat} {z : Nat → Int} (h : Src w N D S U n c k z) (e : w'.heap = w.heap) : Src w' N D S U n c k z :=
  ⟨by show _ = _; rw [e]; exact h.d, by show _ = _; rw [e]; exact h.s, by show _ = _; rw [e]; exact h.u⟩

/-- 'copy' out of a row into a row: an equation in every world with this heap. -/
theorem copy_run (w : World) (g N o n dLen dCap D nD oD sCap sLen : Nat) (b z : Nat → Int) (hR : Row w g N b) (hD : Row w D nD z) (hn : n = Nat.min sLen dLen) (hfit : o + n ≤ N) (hfd : oD + n ≤ nD) :
    ∀ W : World, W.heap = w.heap → (Builtin.copy_ #[22, 22] 3 #[.slice (some ⟨g, o, none⟩) dLen dCap, .slice (some ⟨D, oD, none⟩) sLen sCap]).run Ybad.prog W =
      .ok (goInt n) (W.setRow g (((List.range N).map fun i => Value.int .u8 (if o ≤ i ∧ i < o + n then z (oD + (i - o)) else b i)).toArray)) := by
  intro W hW
  have hR' : W.heap[g]? = some (.cells ((List.range N).map fun i => Value.int .u8 (b i)).toArray 5 (0, 0)) := by rw [hW]; exact hR
  have hDW : Row W D nD z := by show _ = _; rw [hW]; exact hD
  have hrun := run_copy_row (P := Ybad.prog) W 22 22 3 5 g o dLen dCap ⟨D, oD, none⟩ sLen sCap _ 5 ((List.range n).map fun i => Value.int .u8 (z (oD + i))) Ybad.underlying22 Ybad.size5 hR' (by simpa using hn)
    (fun j v hv => by
      have hj : j < n := by have := (List.getElem?_eq_some_iff.1 hv).1; simpa using this
      have hv' : v = .int .u8 (z (oD + j)) := by simp [hj] at hv; exact hv.symm
      rw [hv', add_addr]; exact hDW.cell (oD + j) (by omega)) (by simpa using hfit)
    (fun v hv => by obtain ⟨_, _, rfl⟩ := List.mem_map.1 hv; rfl)
  rw [show ((List.range n).map fun i => Value.int .u8 (z (oD + i))).length = n from by simp, list_copy N o n b (fun i => z (oD + i)) hfit] at hrun
  exact hrun

/-- behind the copy. -/
theorem Src.copied {w : World} {N D S U n c k c' : Nat} {z : Nat → Int} (h : Src w N D S U n c k z) (hDU : D ≠ U) (hSU : S ≠ U) (hDS : D ≠ S) :
    Src ((w.setRow U (((List.range N).map fun i => Value.int .u8 (if k ≤ i ∧ i < k + c' then z (k + (i - k)) else upTo z k i)).toArray)).setCell ⟨S, 1, none⟩ (.int .i64 (k + c' : Nat))) N D S U n c (k + c') z := by
  have hu : w.heap[U]? = some (.cells ((List.range N).map fun i => Value.int .u8 (upTo z k i)).toArray 5 (0, 0)) := h.u
  refine ⟨?_, ?_, ?_⟩
  · show _ = _
    rw [heap_setCell_other _ _ _ _ hDS, setRow_other _ _ _ _ hDU]
    exact h.d
  · have h1 : Blk (w.setRow U (((List.range N).map fun i => Value.int .u8 (if k ≤ i ∧ i < k + c' then z (k + (i - k)) else upTo z k i)).toArray)) S #[.slice (some ⟨D, 0, none⟩) n n, .int .i64 k, .int .i64 c] 26 := (setRow_other _ _ _ _ hSU).trans h.s
    exact h1.set 1 _
  · show _ = _
    rw [heap_setCell_other _ _ _ _ (Ne.symm hSU), setRow_heap w U _ _ 5 (0, 0) hu]
    have : ((List.range N).map fun i => Value.int .u8 (if k ≤ i ∧ i < k + c' then z (k + (i - k)) else upTo z k i)) = (List.range N).map fun i => Value.int .u8 (upTo z (k + c') i) := by
      refine List.map_congr_left (fun i _ => ?_)
      unfold upTo
      by_cases h1 : k ≤ i ∧ i < k + c'
      · rw [if_pos h1, if_pos h1.2, show k + (i - k) = i from by omega]
      · rw [if_neg h1]
        by_cases h2 : i < k
        · rw [if_pos h2, if_pos (by omega)]
        · rw [if_neg h2, if_neg (by omega)]
    rw [this]

/-- what Read answers where bytes are left. -/
def ReadSome (N D S U n c k : Nat) (z : Nat → Int) (e : Ending) (w' : World) : Prop := ∃ c' : Nat, e = .returned (.tuple #[.int .i64 c', .nilIface]) ∧ 1 ≤ c' ∧ k + c' ≤ n ∧ Src w' N D S U n c (k + c') z

set_option maxHeartbeats 1000000 in
set_option maxRecDepth 100000 in
theorem read_some (N D S U n c k pl : Nat) (z : Nat → Int) (w : World) (hn : n ≤ 1024) (hc1 : 1 ≤ c) (hc8 : c ≤ 8) (hpl : 8 ≤ pl) (hpk : k + pl ≤ N) (hk : k < n) (hDU : D ≠ U) (hSU : S ≠ U) (hDS : D ≠ S) (hS : Src w N D S U n c k z) :
    Calls Ybad.prog 38 #[.pointer (some ⟨S, 0, none⟩), .slice (some ⟨U, k, none⟩) pl pl] w fun e w' => ReadSome N D S U n c k z e w' ∧ Oth [S, U] w w' := by
  have HS : Hid (Src w N D S U n c k z) := hS
  have s0 : w.cell? ⟨S, 0, none⟩ = some (.slice (some ⟨D, 0, none⟩) n n) := hS.s.cell 0
  have s1 : w.cell? ⟨S, 1, none⟩ = some (.int .i64 k) := hS.s.cell 1
  have s2 : w.cell? ⟨S, 2, none⟩ = some (.int .i64 c) := hS.s.cell 2
  have f1 := hS.s.free 1
  clear hS
  obtain ⟨r, rfl⟩ : ∃ r, n = k + r := ⟨n - k, by omega⟩
  have e1 : ((k : Int) + (r : Int) - (k : Int)) = (r : Int) := by omega
  by_cases hcc : r < c
  · have hrun := copy_run w U N k r pl pl D (k + r) k r r (upTo z k) z HS.out.u HS.out.d (Nat.min_eq_left (by omega)).symm (by omega) (by omega)
    obtain ⟨X, hX⟩ : ∃ X, X = (List.map (fun i => Value.int .u8 (if k ≤ i ∧ i < k + r then z (k + (i - k)) else upTo z k i)) (List.range N)).toArray := ⟨_, rfl⟩
    rw [← hX] at hrun
    have HX : Hid (X = (List.map (fun i => Value.int .u8 (if k ≤ i ∧ i < k + r then z (k + (i - k)) else upTo z k i)) (List.range N)).toArray) := hX
    clear hX
    have hrun2 : ∀ q, (Builtin.copy_ #[22, 22] 3 #[.slice (some ⟨U, k, none⟩) pl pl, .slice (some ⟨D, k, none⟩) r r]).run Ybad.prog (w.drewN q) = .ok (.int .i64 r) ((w.setRow U X).drewN q) := fun q => hrun (w.drewN q) rfl
    clear hrun
    have t1 : (w.setRow U X).cell? ⟨S, 1, none⟩ = some (.int .i64 k) := (World.cell?_of_block (w := w) (setRow_other w U S X hSU)).trans s1
    have t2 : (w.setRow U X).frozen? ⟨S, 1, none⟩ = false := (World.frozen?_of_block (w := w) (setRow_other w U S X hSU)).trans f1
    go_enter Ybad.func38, Ybad.ntmps38
    go_wp2
    go_quiet (fail)
    go_wp2
    go_quiet (fail)
    go_wp2
    go_region
    all_goals
      go_wp2
      go_ret2
      refine ⟨⟨r, rfl, by omega, by omega, ?_⟩, ?_⟩
      · have h := HS.out.copied (c' := r) hDU hSU hDS
        rw [← HX.out, Int.natCast_add] at h
        exact h.of_heap rfl
      · exact (((Oth.refl [S, U] w).setRow (by simp) X).drewN _).setCell (by simp) 1 _
  · have hrun := copy_run w U N k c pl pl D (k + r) k r c (upTo z k) z HS.out.u HS.out.d (Nat.min_eq_left (by omega)).symm (by omega) (by omega)
    obtain ⟨X, hX⟩ : ∃ X, X = (List.map (fun i => Value.int .u8 (if k ≤ i ∧ i < k + c then z (k + (i - k)) else upTo z k i)) (List.range N)).toArray := ⟨_, rfl⟩
    rw [← hX] at hrun
    have HX : Hid (X = (List.map (fun i => Value.int .u8 (if k ≤ i ∧ i < k + c then z (k + (i - k)) else upTo z k i)) (List.range N)).toArray) := hX
    clear hX
    have hrun2 : ∀ q, (Builtin.copy_ #[22, 22] 3 #[.slice (some ⟨U, k, none⟩) pl pl, .slice (some ⟨D, k, none⟩) c r]).run Ybad.prog (w.drewN q) = .ok (.int .i64 c) ((w.setRow U X).drewN q) := fun q => hrun (w.drewN q) rfl
    clear hrun
    have t1 : (w.setRow U X).cell? ⟨S, 1, none⟩ = some (.int .i64 k) := (World.cell?_of_block (w := w) (setRow_other w U S X hSU)).trans s1
    have t2 : (w.setRow U X).frozen? ⟨S, 1, none⟩ = false := (World.frozen?_of_block (w := w) (setRow_other w U S X hSU)).trans f1
    go_enter Ybad.func38, Ybad.ntmps38
    go_wp2
    go_quiet (fail)
    go_wp2
    go_quiet (fail)
    go_wp2
    go_region
    all_goals
      go_wp2
      go_ret2
      refine ⟨⟨c, rfl, by omega, by omega, ?_⟩, ?_⟩
      · have h := HS.out.copied (c' := c) hDU hSU hDS
        rw [← HX.out, Int.natCast_add] at h
        exact h.of_heap rfl
      · exact (((Oth.refl [S, U] w).setRow (by simp) X).drewN _).setCell (by simp) 1 _

set_option maxHeartbeats 1000000 in
set_option maxRecDepth 100000 in
/-- Read where nothing is left: io.EOF. -/
theorem read_eof (N D S U n c pl : Nat) (z : Nat → Int) (E : Value) (w : World) (hS : Src w N D S U n c n z) (hE : w.cell? ⟨0, 0, none⟩ = some E) (h1 : ∃ t v, E = .iface t v) (p : Addr) :
    Calls Ybad.prog 38 #[.pointer (some ⟨S, 0, none⟩), .slice (some p) pl pl] w fun e w' => e = .returned (.tuple #[.int .i64 0, E]) ∧ ∃ q, w' = w.drewN q := by
  obtain ⟨t, v, rfl⟩ := h1
  have s0 : w.cell? ⟨S, 0, none⟩ = some (.slice (some ⟨D, 0, none⟩) n n) := hS.s.cell 0
  have s1 : w.cell? ⟨S, 1, none⟩ = some (.int .i64 n) := hS.s.cell 1
  clear hS
  go_enter Ybad.func38, Ybad.ntmps38
  go_wp2
  go_quiet (fail)
  go_wp2
  go_quiet (fail)
  go_wp2
  go_ret2
  exact ⟨rfl, _, by rw [World.drewN_drewN]⟩
end Go.Proofs.YbulkakoiDoor
