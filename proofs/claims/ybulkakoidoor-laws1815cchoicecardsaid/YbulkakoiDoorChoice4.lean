import Derived.Test.YbulkakoiDoorChoice3
import Derived.LaidEqlPtr
namespace Go.Proofs.YbulkakoiDoor
open Go.RowKit Go.Maps

variable {w vb W : World} {M T Q C R nk nc s : Nat} {kc kn : Nat → Int} {cb : Nat → Bool} {pa ga pc gc : Nat → Nat}

theorem rowAt_route (b : Bool) (p : Nat) : IsRoute (rowAt b p) := by
  cases b
  · exact .inl rfl
  · exact .inr ⟨_, _, _, rfl⟩

theorem notNil_row (b : Bool) (p : Nat) : notNil (rowAt b p) = b := by cases b <;> rfl

/-- what the map's route is. -/
def rowO (o : Option Nat) (ga : Nat → Nat) : Value := match o with | some j => .slice (some ⟨ga j, 0, none⟩) 1 1 | none => .slice none 0 0

theorem rowO_route (o : Option Nat) (ga : Nat → Nat) : IsRoute (rowO o ga) := by
  cases o
  · exact .inl rfl
  · exact .inr ⟨_, _, _, rfl⟩

theorem rowO_eq (o : Option Nat) (ga : Nat → Nat) : (o.map fun j => Value.slice (some ⟨ga j, 0, none⟩) 1 1).getD (.slice none 0 0) = rowO o ga := by cases o <;> rfl

theorem match_ctx (h : Ready w vb M T Q C R nk nc s kc kn cb pa ga pc gc) (hB : Below vb.heap.size vb W) (hnc : nc ≤ 1024) (n : Nat) (hn : n < nc) :
    Calls Ybad.prog 11 #[.pointer (some ⟨T, 0, none⟩), tagV 2 n] W fun e w' => e = .returned (.tuple #[rowAt (cb n) (gc n), .bool (cb n)]) ∧ Below W.heap.size W w' := by
  have hs := hB.size
  have m2 := h.m2
  have m5 := h.m5
  have hk : W.cell? ⟨T, 1, none⟩ = some (.int .u8 12) := (hB.cell (p := ⟨T, 1, none⟩) m2).trans h.k
  have h8 : W.cell? ⟨T, 8, none⟩ = some (.slice (some ⟨R, 0, none⟩) nc nc) := (hB.cell (p := ⟨T, 8, none⟩) m2).trans h.c8
  have hr : W.cell? ⟨R, n, none⟩ = some (rowAt (cb n) (gc n)) := (hB.cell (p := ⟨R, n, none⟩) m5).trans (h.tabR.cell n hn)
  have := match_choice T 2 n (rowAt (cb n) (gc n)) W (by omega) hk (rowAt_route _ _) (fun O => by
    have hc : ∀ b i, b < W.heap.size → (W.alloc O).cell? ⟨b, i, none⟩ = W.cell? ⟨b, i, none⟩ := fun b i hb => World.cell?_alloc_past O b i hb
    have := route_ctx T R nc n (rowAt (cb n) (gc n)) (W.alloc O) hnc hn (by simp; omega) (by simp; omega) ((hc T 8 (by omega)).trans h8) ((hc R n (by omega)).trans hr) (rowAt_route _ _)
    simpa using this)
  rw [notNil_row] at this
  exact this

theorem match_map (h : Ready w vb M T Q C R nk nc s kc kn cb pa ga pc gc) (hB : Below vb.heap.size vb W) (c n : Int) (hc0 : 0 ≤ c) (hc1 : c ≤ 255) (hn0 : 0 ≤ n) (hn1 : n ≤ 4294967295) (hno : ¬ (c = 2 ∧ n < nc)) :
    Calls Ybad.prog 11 #[.pointer (some ⟨T, 0, none⟩), tagV c n] W fun e w' => e = .returned (.tuple #[rowO (lastK kc kn c n nk) ga, .bool (notNil (rowO (lastK kc kn c n nk) ga))]) ∧ Below W.heap.size W w' := by
  have hs := hB.size
  have m1 := h.m1
  have m2 := h.m2
  have m5 := h.m5
  obtain ⟨kl, hkl⟩ := key41 c n (WalkArith.wf_u8 ⟨hc0, hc1⟩) (WalkArith.wf_u32 ⟨hn0, hn1⟩)
  have hk : W.cell? ⟨T, 1, none⟩ = some (.int .u8 12) := (hB.cell (p := ⟨T, 1, none⟩) m2).trans h.k
  have h8 : W.cell? ⟨T, 8, none⟩ = some (.slice (some ⟨R, 0, none⟩) nc nc) := (hB.cell (p := ⟨T, 8, none⟩) m2).trans h.c8
  have h9 : W.cell? ⟨T, 9, none⟩ = some (.map (some M)) := (hB.cell (p := ⟨T, 9, none⟩) m2).trans h.r
  have hM := h.map.of_block (hB.block M m1)
  refine match_choice T c n (rowO (lastK kc kn c n nk) ga) W (by omega) hk (rowO_route _ _) (fun O => ?_)
  have hc : ∀ b i, b < W.heap.size → (W.alloc O).cell? ⟨b, i, none⟩ = W.cell? ⟨b, i, none⟩ := fun b i hb => World.cell?_alloc_past O b i hb
  have := route_map T M nk s nc (some ⟨R, 0, none⟩) (mOf kc kn ga nk) c n (W.alloc O) hn0 hn1 hno (by simp; omega) ((hc T 8 (by omega)).trans h8) ((hc T 9 (by omega)).trans h9) (hM.of_block (Below.heap_alloc W O M (by omega))) kl hkl
  rw [mOf_tag, rowO_eq] at this
  simpa using this

/-- what the answer of the map's Match is, by the last match. -/
def MapSays (o : Option Nat) (ga : Nat → Nat) (rv : Value) (ok : Bool) : Prop :=
  (∀ j, o = some j → rv = .slice (some ⟨ga j, 0, none⟩) 1 1 ∧ ok = true) ∧ (o = none → rv = .slice none 0 0 ∧ ok = false)

theorem mapSays (o : Option Nat) (ga : Nat → Nat) : MapSays o ga (rowO o ga) (notNil (rowO o ga)) := by
  refine ⟨fun j h => ?_, fun h => ?_⟩
  · subst h; exact ⟨rfl, rfl⟩
  · subst h; exact ⟨rfl, rfl⟩

theorem eql68_nil (w : World) : (binOp .eql 68 (.pointer none) (.pointer none)).run Ybad.prog w = .ok (.bool true) w := by kernel_rfl
theorem eql68_some (a : Addr) (w : World) : (binOp .eql 68 (.pointer (some a)) (.pointer none)).run Ybad.prog w = .ok (.bool false) w := by kernel_rfl
theorem tag_made (wr : World) (a b : Int) : Hid (Below wr.heap.size wr (wr.alloc (.cells #[.int .u8 a, .int .u32 b] 41)).drew) ∧ (wr.alloc (.cells #[.int .u8 a, .int .u32 b] 41)).drew.cell? ⟨wr.heap.size, 0, none⟩ = some (.int .u8 a) ∧ (wr.alloc (.cells #[.int .u8 a, .int .u32 b] 41)).drew.cell? ⟨wr.heap.size, 1, none⟩ = some (.int .u32 b) ∧ wr.heap.size < (wr.alloc (.cells #[.int .u8 a, .int .u32 b] 41)).drew.heap.size := by
  refine ⟨((Below.refl _ _).alloc (Nat.le_refl _) _).drew, ?_, ?_, ?_⟩
  · simp
  · simp
  · simp
theorem info70 : (Ybad.prog.info? 70).isSome = true := by kernel_rfl
theorem eql68_same (a : Addr) (w : World) : (binOp .eql 68 (.pointer (some a)) (.pointer (some a))).run Ybad.prog w = .ok (.bool true) w := by
  obtain ⟨j, hj⟩ := Option.isSome_iff_exists.1 info70
  exact run_eql_ptr_same w a Ybad.underlying68 hj
theorem eql49_nil (w : World) : (binOp .eql 49 (.slice none 0 0) (.slice none 0 0)).run Ybad.prog w = .ok (.bool true) w := by kernel_rfl
end Go.Proofs.YbulkakoiDoor
