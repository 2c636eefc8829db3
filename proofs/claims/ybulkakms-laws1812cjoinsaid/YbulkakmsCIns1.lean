import Derived.Test.YbulkakmsCFind
import Derived.Laws.CopyRow
import Derived.Laws.Externs
import Derived.Lib.Overlaps
import Derived.Lib.AppendZerosOnto
import Derived.Deep.DeepAppendWide
namespace Go.Proofs.Ybulkakms
open Go.RowKit

theorem info66 : ∃ i : TypeInfo, Yba.prog.info? 66 = some i ∧ i.zero = some (.agg #[.int .u16 0, .int .u16 0, .int .i64 0]) ∧ i.size = 3 ∧ i.bytes = 16 := info_parts (by kernel_rfl)

theorem run_copy_row3 (w : World) (ty : TypeId) (g o dLen dCap : Nat) (a : Addr) (sLen sCap : Nat) (cur : Array Value) (t : TypeId) (cs : List Value)
    (hg : w.heap[g]? = some (.cells cur t (0, 0))) (hn : cs.length = Nat.min sLen dLen * 3)
    (hsrc : ∀ j v, cs[j]? = some v → w.cell? (a.add j) = some v) (hfit : o + cs.length ≤ cur.size) (h1 : ∀ v ∈ cs, v.oneCell' = true) :
    (Builtin.copy_ #[61, 61] ty #[.slice (some ⟨g, o, none⟩) dLen dCap, .slice (some a) sLen sCap]).run Yba.prog w =
      .ok (goInt (Nat.min sLen dLen)) (w.setRow g (cur.toList.take o ++ cs ++ cur.toList.drop (o + cs.length)).toArray) := by
  have hl := run_loadCells_list (P := Yba.prog) w a cs hsrc
  have hst := run_storeCells_at Yba.prog g o t cs 0 cur w hg (by simpa using hfit) h1
  obtain ⟨i, hq, _, hi, _⟩ := info66
  simp [Builtin.copy_, run_underlying Yba.underlying61, Builtin.lenOf, Builtin.firstCells, sizeOf, typeInfo, hq, hi, ← hn, hl, hst]

theorem setRow_same {w : World} {g : Nat} {cur : Array Value} {t : TypeId} (cs : Array Value) (h : w.heap[g]? = some (.cells cur t)) : (w.setRow g cs).heap[g]? = some (.cells cs t) := by
  simp [World.setRow, Array.getElem?_modify, h]
theorem setRow_other (w : World) {g k : Nat} (cs : Array Value) (h : k ≠ g) : (w.setRow g cs).heap[k]? = w.heap[k]? := by
  simp [World.setRow, Array.getElem?_modify, Ne.symm h]
theorem setRow_size (w : World) (g : Nat) (cs : Array Value) : (w.setRow g cs).heap.size = w.heap.size := by
  simp [World.setRow]

/-- first D from (i+1)*3 on, then A at i*3. -/
theorem segs_BA (R P A D : List Value) (i n C : Nat) (hR : R.length = C * 3) (hC : n + 1 ≤ C) (hi : i ≤ n) (hP : R.take (i * 3) = P) (hA : A.length = 3) (hD : D.length = (n - i) * 3) :
    ∀ R1 R2, R1 = R.take ((i + 1) * 3) ++ D ++ R.drop ((i + 1) * 3 + D.length) → R2 = R1.take (i * 3) ++ A ++ R1.drop (i * 3 + A.length) → R1.length = C * 3 ∧ R2.length = C * 3 ∧ R2.take ((n + 1) * 3) = P ++ A ++ D := by
  intro R1 R2 e1 e2
  have hPl : P.length = i * 3 := by rw [← hP, List.length_take]; omega
  have l1 : (R.take ((i + 1) * 3)).length = (i + 1) * 3 := by rw [List.length_take]; omega
  have hR1 : R1.length = C * 3 := by rw [e1]; simp only [List.length_append, List.length_take, List.length_drop]; omega
  have t1 : R1.take (i * 3) = P := by
    rw [e1, List.append_assoc, List.take_append_of_le_length (by omega), List.take_take, Nat.min_eq_left (by omega), hP]
  have d1 : R1.drop (i * 3 + A.length) = D ++ R.drop ((i + 1) * 3 + D.length) := by
    rw [e1, List.append_assoc, List.drop_left' (by rw [l1, hA]; omega)]
  refine ⟨hR1, ?_, ?_⟩
  · rw [e2, t1, d1]
    simp only [List.length_append, List.length_drop]
    omega
  · rw [e2, t1, d1, ← List.append_assoc, List.take_left' (by simp only [List.length_append]; omega)]

/-- first A at i*3, then D from (i+1)*3 on. -/
theorem segs_AB (R P A D : List Value) (i n C : Nat) (hR : R.length = C * 3) (hC : n + 1 ≤ C) (hi : i ≤ n) (hP : R.take (i * 3) = P) (hA : A.length = 3) (hD : D.length = (n - i) * 3) :
    ∀ R1 R2, R1 = R.take (i * 3) ++ A ++ R.drop (i * 3 + A.length) → R2 = R1.take ((i + 1) * 3) ++ D ++ R1.drop ((i + 1) * 3 + D.length) → R1.length = C * 3 ∧ R2.length = C * 3 ∧ R2.take ((n + 1) * 3) = P ++ A ++ D := by
  intro R1 R2 e1 e2
  have hPl : P.length = i * 3 := by rw [← hP, List.length_take]; omega
  have hR1 : R1.length = C * 3 := by rw [e1, hP]; simp only [List.length_append, List.length_drop]; omega
  have t1 : R1.take ((i + 1) * 3) = P ++ A := by
    rw [e1, hP, List.take_left' (by simp only [List.length_append]; omega)]
  refine ⟨hR1, ?_, ?_⟩
  · rw [e2, t1]
    simp only [List.length_append, List.length_drop]
    omega
  · rw [e2, t1, List.take_left' (by simp only [List.length_append]; omega)]

/-- a copy in a region that draws. -/
theorem step_copy_eq {P : Program} {w w' : World} {ops : Array Oper} {o : Oper} {a : Act} {K : Act → World → Prop} {Q : Exit → Act → World → Prop} {E : Prop} {v u v' : Value} {t t' : TypeId}
    (hr : (Builtin.copy_ #[t, t'] o.type #[v, u]).run P w = .ok v' w') (hg : o.guard = none) (d x : Operand) (hop : o.op = .call { callee := .builtin .copy, args := #[d, x], argTypes := #[t, t'] })
    (hd : a.eval d = v) (hx : a.eval x = u) (hK : K (a.put o.dst v') w') : if Region.wanted o (yielded ops a.tmps) = true then Oper.wp P o a w K Q else E := by
  have hw : Region.wanted o (yielded ops a.tmps) = true := by simp [Region.wanted, hg]
  rw [if_pos hw]
  unfold Oper.wp execOp
  simp only [hop, resolve, invoke, builtin, Sem.run_bind, Sem.run_pure, Result.andThen_ok, List.map_toArray, List.map_cons, List.map_nil, hd, hx, hr]
  exact hK

/-- .. and in a plain one. -/
theorem wpList_copy_eq {P : Program} {w w' : World} {ops : Array Oper} {rest : List Oper} {o : Oper} {a : Act} {Q : Exit → Act → World → Prop} {v u v' : Value} {t t' : TypeId}
    (hr : (Builtin.copy_ #[t, t'] o.type #[v, u]).run P w = .ok v' w') (hgd : o.guard = none) (d x : Operand) (hop : o.op = .call { callee := .builtin .copy, args := #[d, x], argTypes := #[t, t'] })
    (hd : a.eval d = v) (hx : a.eval x = u) (h : wpList P ops Q rest (a.put o.dst v') w') : wpList P ops Q (o :: rest) a w :=
  wpList_plain hgd fun _ hK => by
    unfold Oper.wp execOp
    simp only [hop, resolve, invoke, builtin, Sem.run_bind, Sem.run_pure, Result.andThen_ok, List.map_toArray, List.map_cons, List.map_nil, hd, hx, hr]
    exact hK _ _ h

/-- an append whose run is known. -/
theorem wpList_app_eq {P : Program} {w w' : World} {ops : Array Oper} {rest : List Oper} {o : Oper} {a : Act} {Q : Exit → Act → World → Prop} {v u v' : Value} {t t' : TypeId} (hr : (Builtin.append_ #[t, t'] o.type #[v, u]).run P w = .ok v' w') (hgd : o.guard = none) (s x : Operand)
    (ho : o.op = .call { callee := .builtin .append, args := #[s, x], argTypes := #[t, t'] }) (hs : a.eval s = v) (hx : a.eval x = u)
    (h : wpList P ops Q rest (a.put o.dst v') w') : wpList P ops Q (o :: rest) a w :=
  wpList_plain hgd fun _ hK => by
    unfold Oper.wp execOp
    simp only [ho, resolve, invoke, builtin, Sem.run_bind, Sem.run_pure, Result.andThen_ok, List.map_toArray, List.map_cons, List.map_nil, hs, hx, hr]
    exact hK _ _ h

/-- the outcome of an insert at place i. -/
structure Put (w w' : World) (base : Nat) (v v' : Value) (l : List Vc) : Prop where
  own : w'.ownsRow base 66 3 v' l.length (flat3 l)
  grown : w.grownBy w' v.ownBlock
  loc : v'.ownBlock = v.ownBlock ∨ ∃ g, v'.ownBlock = some g ∧ w.heap.size ≤ g
end Go.Proofs.Ybulkakms
