import Derived.Test.YbulkakoiDoorStream5
import Derived.Test.YbulkakoiDoorStreamN
import Derived.Test.YbulkakoiDoorHeld
namespace Go.Proofs.YbulkakoiDoor
open Go.RowKit

theorem peekB_neg (B : Nat) (m : Int) (a1 : Addr) (w : World) (hm : m < 0) (hE1 : w.cell? ⟨1, 0, none⟩ = some (.iface 103 (.pointer (some a1)))) :
    Calls Ybad.prog 14 #[.pointer (some ⟨B, 0, none⟩), .int .i64 m] w fun e w' => e = .returned (.tuple #[.slice none 0 0, .iface 103 (.pointer (some a1))]) ∧ ∃ q, w' = w.drewN q := by
  go_enter Ybad.func14, Ybad.ntmps14
  go_wp2
  go_quiet (fail)
  go_wp2
  go_ret2
  exact ⟨rfl, _, rfl⟩

set_option maxHeartbeats 1000000 in
set_option maxRecDepth 100000 in
theorem peek_neg (R B : Nat) (m : Int) (a a1 : Addr) (ca cb : Array Value) (ta tb : TypeId) (w : World) (hm : m < 0) (hE : w.cell? ⟨0, 0, none⟩ = some (.iface 103 (.pointer (some a)))) (hE1 : w.cell? ⟨1, 0, none⟩ = some (.iface 103 (.pointer (some a1))))
    (hne : a1 ≠ a) (ha1 : w.heap[a1.block]? = some (.cells ca ta (0, 0))) (ha : w.heap[a.block]? = some (.cells cb tb (0, 0)))
    (r0 : w.cell? ⟨R, 0, none⟩ = some (.pointer (some ⟨B, 0, none⟩))) (r3 : w.cell? ⟨R, 3, none⟩ = some (.slice none 0 0)) :
    Calls Ybad.prog 8 #[.pointer (some ⟨R, 0, none⟩), .int .i64 m] w fun e w' => e = .returned (.tuple #[.slice none 0 0, .iface 103 (.pointer (some a1))]) ∧ ∃ q, w' = w.drewN q := by
  have q1 := neq22nil
  have q2 := neqNil30
  have HA1 : Hid (w.heap[a1.block]? = some (.cells ca ta (0, 0))) := ha1
  have HA : Hid (w.heap[a.block]? = some (.cells cb tb (0, 0))) := ha
  clear ha ha1
  go_enter Ybad.func8, Ybad.ntmps8
  go_wp2_with fail
  refine (peekB_neg B m a1 w hm hE1).mono ?_
  rintro e w1 ⟨rfl, q, rfl⟩
  go_wp2_with fail
  refine (is_other a1 a ca cb ta tb (w.drewN q) hne HA1.out HA.out).mono ?_
  rintro e w2 ⟨rfl, rfl⟩
  go_wp2
  go_ret2
  exact ⟨rfl, q, rfl⟩

theorem prefix_any (D n m : Nat) (w : World) :
    Calls Ybad.prog 10 #[.slice (some ⟨D, 0, none⟩) n n, .int .i64 m] w fun e w' => e = .returned (.slice (some ⟨D, 0, none⟩) (min m n) n) ∧ w' = w := by
  by_cases h : n < m
  · rw [Nat.min_eq_right (by omega)]
    go_enter Ybad.func10, Ybad.ntmps10
    go_wp2
    all_goals
      go_ret
      exact ⟨rfl, rfl⟩
  · rw [Nat.min_eq_left (by omega)]
    go_enter Ybad.func10, Ybad.ntmps10
    go_wp2
    all_goals
      go_ret
      exact ⟨rfl, rfl⟩

/-- what the law knows of the sentinels. -/
structure Sents (w : World) (a a1 : Addr) : Prop where
  eof : w.cell? ⟨0, 0, none⟩ = some (.iface 103 (.pointer (some a)))
  neg : w.cell? ⟨1, 0, none⟩ = some (.iface 103 (.pointer (some a1)))
  ne : a1 ≠ a
  lo : 6 ≤ w.heap.size
  b1 : ∃ ca ta, w.heap[a1.block]? = some (.cells ca ta (0, 0))
  b0 : ∃ cb tb, w.heap[a.block]? = some (.cells cb tb (0, 0))

theorem Sents.below {w w' : World} {a a1 : Addr} (h : Sents w a a1) (hb : Below w.heap.size w w') : Sents w' a a1 := by
  have lo := h.lo
  obtain ⟨ca, ta, h1⟩ := h.b1
  obtain ⟨cb, tb, h0⟩ := h.b0
  have l1 : a1.block < w.heap.size := (Array.getElem?_eq_some_iff.1 h1).1
  have l0 : a.block < w.heap.size := (Array.getElem?_eq_some_iff.1 h0).1
  exact ⟨(hb.cell (p := ⟨0, 0, none⟩) (show 0 < w.heap.size by omega)).trans h.eof, (hb.cell (p := ⟨1, 0, none⟩) (show 1 < w.heap.size by omega)).trans h.neg, h.ne, Nat.le_trans lo hb.size, ⟨ca, ta, (hb.block _ l1).trans h1⟩, ⟨cb, tb, (hb.block _ l0).trans h0⟩⟩

/-- the law's memory, between two peeks. -/
structure Beg (w0 w : World) (D S R B U n c : Nat) (z : Nat → Int) : Prop where
  rest : ∃ k, k ≤ n ∧ Rest w bigN D S U B n c k z .nilIface
  r0 : w.cell? ⟨R, 0, none⟩ = some (.pointer (some ⟨B, 0, none⟩))
  r3 : w.cell? ⟨R, 3, none⟩ = some (.slice none 0 0)
  below : Below w0.heap.size w0 w
  lo : 6 ≤ w0.heap.size
  geS : w0.heap.size ≤ S
  geU : w0.heap.size ≤ U
  geB : w0.heap.size ≤ B
  du : D ≠ U
  su : S ≠ U
  ds : D ≠ S
  bs : B ≠ S
  bu : B ≠ U
  bd : B ≠ D
  rs : R ≠ S
  ru : R ≠ U
  rb : R ≠ B

theorem Beg.step {w0 w w' : World} {D S R B U n c : Nat} {z : Nat → Int} (h : Beg w0 w D S R B U n c z) (ho : Oth [S, U, B] w w') (hr : ∃ k, k ≤ n ∧ Rest w' bigN D S U B n c k z .nilIface) : Beg w0 w' D S R B U n c z := by
  have hR : R ∉ [S, U, B] := by simp [h.rs, h.ru, h.rb]
  exact ⟨hr, (ho.cell hR 0).trans h.r0, (ho.cell hR 3).trans h.r3, ho.below (by have := h.geS; have := h.geU; have := h.geB; intro g hg; simp at hg; omega) h.below, h.lo, h.geS, h.geU, h.geB, h.du, h.su, h.ds, h.bs, h.bu, h.bd, h.rs, h.ru, h.rb⟩

theorem Beg.drewN {w0 w : World} {D S R B U n c : Nat} {z : Nat → Int} (h : Beg w0 w D S R B U n c z) (q : Nat) : Beg w0 (w.drewN q) D S R B U n c z := by
  obtain ⟨k, hk, hr⟩ := h.rest
  exact h.step ((Oth.refl _ w).drewN q) ⟨k, hk, hr.of_heap rfl⟩

/-- what a peek leaves: the bytes lie in the buffer. -/
def PeekLies (w' : World) (m n : Nat) (z : Nat → Int) (e : Ending) : Prop := ∃ ao c, e = .returned (.tuple #[.slice ao (min m n) c, .nilIface]) ∧ Lies w' ao (min m n) z

theorem peek_beg (w0 w : World) (D S R B U n c m : Nat) (z : Nat → Int) (a a1 : Addr) (h : Beg w0 w D S R B U n c z) (hs : Sents w0 a a1) (hn : n ≤ 1024) (hc1 : 1 ≤ c) (hc8 : c ≤ 8) (hm : m ≤ n + 2) :
    Calls Ybad.prog 8 #[.pointer (some ⟨R, 0, none⟩), .int .i64 m] w fun e w' => PeekLies w' m n z e ∧ Beg w0 w' D S R B U n c z := by
  obtain ⟨k, hk, hr⟩ := h.rest
  have h0 : 0 ∉ [S, U, B] := by have := h.lo; have := h.geS; have := h.geU; have := h.geB; simp; omega
  refine (peek_stream R bigN D S U B n c k m z a w (by decide) (by decide) hn hc1 hc8 hm hk h.du h.su h.ds h.bs h.bu h.bd h0 hr (hs.below h.below).eof h.r0 h.r3).mono ?_
  rintro e w' ⟨⟨o, cc, rfl, ho⟩, ⟨k', hk', hmk, hr'⟩, hO⟩
  refine ⟨⟨_, cc, rfl, ?_⟩, h.step hO ⟨k', hk', hr'⟩⟩
  intro hp
  obtain rfl := ho hp
  exact ⟨U, 0, rfl, fun i hi => by
    have hb : bigN = 65535 := rfl
    rw [Nat.zero_add, hr'.src.u.cell i (by omega)]
    unfold upTo
    rw [if_pos (by omega)]⟩

theorem peek_beg_neg (w0 w : World) (D S R B U n c : Nat) (m : Int) (z : Nat → Int) (a a1 : Addr) (h : Beg w0 w D S R B U n c z) (hs : Sents w0 a a1) (hm : m < 0) :
    Calls Ybad.prog 8 #[.pointer (some ⟨R, 0, none⟩), .int .i64 m] w fun e w' => e = .returned (.tuple #[.slice none 0 0, .iface 103 (.pointer (some a1))]) ∧ Below w0.heap.size w0 w' := by
  have hs' := hs.below h.below
  obtain ⟨ca, ta, h1⟩ := hs'.b1
  obtain ⟨cb, tb, h0⟩ := hs'.b0
  refine (peek_neg R B m a a1 ca cb ta tb w hm hs'.eof hs'.neg hs'.ne h1 h0 h.r0 h.r3).mono ?_
  rintro e w' ⟨rfl, q, rfl⟩
  exact ⟨rfl, below_drewN h.below q⟩

theorem beg_of (w w2 w3 : World) (R B U n c : Nat) (z : Nat → Int) (lo : 6 ≤ w.heap.size) (hB2 : Below w.heap.size w w2) (hR2 : Row w2 w.heap.size n z)
    (hN : NewRd (w2.alloc (.cells #[.slice (some ⟨w.heap.size, 0, none⟩) n n, .int .i64 0, .int .i64 c] 26)) w3 (.iface 24 (.pointer (some ⟨w2.heap.size, 0, none⟩))) R B U) :
    Beg w w3 w.heap.size w2.heap.size R B U n c z := by
  have hlt := hR2.lt
  have gB := hN.geB
  have gU := hN.geU
  have gR := hN.geR
  have bel := hN.below
  have hsz : (w2.alloc (.cells #[.slice (some ⟨w.heap.size, 0, none⟩) n n, .int .i64 0, .int .i64 c] 26)).heap.size = w2.heap.size + 1 := by simp
  rw [hsz] at gB gU gR bel
  have hsb := hB2.size
  refine ⟨⟨0, Nat.zero_le _, ⟨?_, ?_, ?_⟩, hN.b⟩, hN.r0, hN.r3, ?_, lo, by omega, by omega, by omega, by omega, by omega, by omega, by omega, hN.ne, by omega, by omega, hN.neRU, hN.neRB⟩
  · exact (bel.block w.heap.size (by omega)).trans ((Below.heap_alloc w2 _ w.heap.size hlt).trans hR2)
  · exact (bel.block w2.heap.size (by omega)).trans (heap_alloc_new w2 _)
  · exact hN.u.congr (fun i _ => by simp [upTo])
  · exact (hB2.alloc (Nat.le_of_lt hlt) _).trans (bel.mono (by omega))

theorem eql22nil (w : World) : (binOp .eql 22 (.slice none 0 0) (.slice none 0 0)).run Ybad.prog w = .ok (.bool true) w := by kernel_rfl

theorem Beg.dlies {w0 w : World} {D S R B U n c : Nat} {z : Nat → Int} (h : Beg w0 w D S R B U n c z) (m : Nat) : Lies w (some ⟨D, 0, none⟩) (min m n) z := by
  obtain ⟨k, _, hr⟩ := h.rest
  intro _
  exact ⟨D, 0, rfl, fun i hi => by rw [Nat.zero_add]; exact hr.src.d.cell i (by omega)⟩

set_option maxHeartbeats 1000000 in
set_option maxRecDepth 100000 in
theorem stream_any (a0 : Option Addr) (n c0 : Nat) (z : Nat → Int) (ch x y : Int) (neg : Bool) (a a1 : Addr) (w : World) (hch0 : 0 ≤ ch) (hch1 : ch ≤ 255) (hx0 : 0 ≤ x) (hx1 : x ≤ 65535) (hy0 : 0 ≤ y) (hy1 : y ≤ 65535) (hrow : Hid (Lies w a0 n z)) (hs : Hid (Sents w a a1)) :
    Calls Ybad.prog 3 #[.slice a0 n c0, .int .u8 ch, .int .u16 x, .int .u16 y, .bool neg] w fun e w' => e = .returned (.bool true) ∧ Below w.heap.size w w' := by
  obtain ⟨i0, hi, hz0, hz1, hz2⟩ := info_parts Ybad.info5
  by_cases hn : 1024 < n
  · go_enter Ybad.func3, Ybad.ntmps3
    go_wp2
    go_ret
    exact ⟨rfl, Below.refl _ _⟩
  have hn' : n ≤ 1024 := by omega
  clear hn
  obtain ⟨c, hc⟩ : ∃ c : Nat, ch % 8 + 1 = (c : Int) := ⟨(ch % 8 + 1).toNat, by omega⟩
  have hc1 : 1 ≤ c := by omega
  have hc8 : c ≤ 8 := by omega
  go_enter Ybad.func3, Ybad.ntmps3
  go_wp2_with (at_make; refine wpList_make_full _ rfl _ _ 22 rfl w.heap.size 5 i0 (.int .u8 0) 1 Ybad.underlying22 hi hz0 hz1 _ _ _ _ n rfl rfl rfl rfl (by rw [hz2]; omega) (by unfold maxLen; omega) (Nat.le_refl _) ?_; intro w1 hown hgrow)
  have hB1 : Below w.heap.size w w1 := (Below.refl _ _).grown hgrow (Nat.le_refl _) (fun k hk => by cases hk)
  obtain ⟨w2, hrun, hR2, hbut⟩ := copy_bytes w1 w.heap.size n 0 n n n n c0 (fun _ => 0) z (some ⟨w.heap.size, 0, none⟩) a0 (made_row hown) (hrow.out.below hB1 (Nat.le_refl _)) (Nat.min_self n).symm (by omega) (fun _ => rfl)
  have hB2 : Below w.heap.size w w2 := hbut.below (Nat.le_refl _) hB1
  have HR2 : Hid (Row w2 w.heap.size n z) := hR2.congr (fun i hi => by rw [if_pos (by omega)]; rfl)
  have hs2 : w.heap.size < w2.heap.size := HR2.out.lt
  rw [hrun]
  clear hown hgrow hrun hR2 hbut hB1 hi hz0 hz1 hz2 hrow
  go_wp2_with fail
  refine (newReader w2.heap.size _).mono ?_
  rintro e w3 ⟨R, B, U, rfl, hN⟩
  have HBeg : Hid (Beg w w3 w.heap.size w2.heap.size R B U n c z) := beg_of w w2 w3 R B U n c z hs.out.lo hB2 HR2.out hN
  clear hN hB2 HR2
  cases neg with
  | true =>
    have q1 := neqNil30
    have q2 := eql22nil
    go_wp2_with fail
    refine (peek_beg_neg w w3 w.heap.size w2.heap.size R B U n c _ z a a1 HBeg.out hs.out (by omega)).mono ?_
    rintro e w4 ⟨rfl, hB4⟩
    go_wp2
    go_ret
    exact ⟨rfl, hB4⟩
  | false =>
    have q1 := neqNilNil30
    have q2 := eqlNil30'
    obtain ⟨mx, hmx⟩ : ∃ mx : Nat, x % ((n : Int) + 3) = (mx : Int) := ⟨(x % ((n : Int) + 3)).toNat, by have := Int.emod_nonneg x (show (n : Int) + 3 ≠ 0 from by omega); omega⟩
    have hmx1 : mx ≤ n + 2 := by have := Int.emod_lt_of_pos x (show (0 : Int) < (n : Int) + 3 from by omega); omega
    obtain ⟨my, hmy⟩ : ∃ my : Nat, y % ((n : Int) + 3) = (my : Int) := ⟨(y % ((n : Int) + 3)).toNat, by have := Int.emod_nonneg y (show (n : Int) + 3 ≠ 0 from by omega); omega⟩
    have hmy1 : my ≤ n + 2 := by have := Int.emod_lt_of_pos y (show (0 : Int) < (n : Int) + 3 from by omega); omega
    go_wp2_with fail
    refine (peek_beg w w3 w.heap.size w2.heap.size R B U n c mx z a a1 HBeg.out hs.out hn' hc1 hc8 hmx1).mono ?_
    rintro e w4 ⟨⟨ao, cc, rfl, hl⟩, hbeg4⟩
    have HL : Hid (Lies w4 ao (min mx n) z) := hl
    have HBeg4 : Hid (Beg w w4 w.heap.size w2.heap.size R B U n c z) := hbeg4
    clear hl hbeg4 HBeg
    go_wp2_with fail
    refine (prefix_any w.heap.size n mx w4).mono ?_
    rintro e w5 ⟨rfl, rfl⟩
    go_wp2_with fail
    refine (beq_any ao (some ⟨w.heap.size, 0, none⟩) (min mx n) cc n z w5 (by omega) HL.out (HBeg4.out.dlies mx)).mono ?_
    rintro e w6 ⟨rfl, q, rfl⟩
    go_wp2_with fail
    refine (peek_beg w (w5.drewN q) w.heap.size w2.heap.size R B U n c my z a a1 (HBeg4.out.drewN q) hs.out hn' hc1 hc8 hmy1).mono ?_
    rintro e w7 ⟨⟨ao2, cc2, rfl, hl2⟩, hbeg7⟩
    have HL2 : Hid (Lies w7 ao2 (min my n) z) := hl2
    have HBeg7 : Hid (Beg w w7 w.heap.size w2.heap.size R B U n c z) := hbeg7
    clear hl2 hbeg7
    go_wp2_with fail
    refine (prefix_any w.heap.size n my w7).mono ?_
    rintro e w8 ⟨rfl, rfl⟩
    go_wp2_with fail
    refine (beq_any ao2 (some ⟨w.heap.size, 0, none⟩) (min my n) cc2 n z w8 (by omega) HL2.out (HBeg7.out.dlies my)).mono ?_
    rintro e w9 ⟨rfl, q', rfl⟩
    go_wp2
    go_ret
    exact ⟨rfl, below_drewN HBeg7.out.below _⟩
end Go.Proofs.YbulkakoiDoor
