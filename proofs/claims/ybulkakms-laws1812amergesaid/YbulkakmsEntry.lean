import Derived.Test.YbulkakmsExact
import Derived.WideKeyEntry
import Derived.Maps.Range
namespace Go.Proofs.Ybulkakms
open Go.RowKit Go.Maps

variable {P : Program} {k t e : TypeId} {w : World} {b n s : Nat} {m : Value → Option Value}

/-- 'm[k] = append(m[k], ..)': the entry is fetched (u: the world by then; the map's block is as it was), and stored into later (w2: the map's block is as the fetch left it). -/
theorem MapAt.entry (h : MapAt w P k b n s m) (K : WideMaps.KeyLaw P k) (ht : P.underlying t = some (.map k e)) {z : Value} (hz : ∀ u : World, (zeroValue e).run P u = .ok z u) (hn : n < maxLen) {key : Value} {kl : Lit} (hkey : keyOf P k key = some kl) :
    ∃ (st : World → Nat) (ent : World → World), ∀ u, u.heap[b]? = w.heap[b]? →
      (Instr.mapEntry t (.map (some b)) key).run P u = .ok (.tuple #[(m key).getD z, goInt (st u)]) (ent u) ∧ (∃ o, ent u = Go.ChangeMaps.setBlock u b o) ∧
      ∀ (w2 : World) (val : Value), w2.heap[b]? = (ent u).heap[b]? → ∃ w3, (Instr.entryStore t (.map (some b)) (goInt (st u)) val).run P w2 = .ok () w3 ∧ (∃ o, w3 = Go.ChangeMaps.setBlock w2 b o) ∧
        ∀ m', m' key = some val → (∀ x, x ≠ key → m' x = m x) → MapAt w3 P k b (n + 1) (if (m key).isSome then s else s + 1) m' := by
  have hbl := h.lt
  have hall : ∀ u : World, ∃ (p : Nat × World), u.heap[b]? = w.heap[b]? →
      (Instr.mapEntry t (.map (some b)) key).run P u = .ok (.tuple #[(m key).getD z, goInt p.1]) p.2 ∧ (∃ o, p.2 = Go.ChangeMaps.setBlock u b o) ∧
      ∀ (w2 : World) (val : Value), w2.heap[b]? = p.2.heap[b]? → ∃ w3, (Instr.entryStore t (.map (some b)) (goInt p.1) val).run P w2 = .ok () w3 ∧ (∃ o, w3 = Go.ChangeMaps.setBlock w2 b o) ∧
        ∀ m', m' key = some val → (∀ x, x ≠ key → m' x = m x) → MapAt w3 P k b (n + 1) (if (m key).isSome then s else s + 1) m' := fun u => by
    by_cases hu : u.heap[b]? = w.heap[b]?
    · have hM : MapAt u P k b n s m := h.of_block hu
      have hlook := hM.look (Keyed.of_law K) ht (hz u) hkey
      have hM' := hM
      obtain ⟨D, ⟨es, clock, hb, F, hsz, hD⟩, hrest⟩ := hM
      have hlt : b < u.heap.size := (Array.getElem?_eq_some_iff.1 hb).1
      obtain ⟨v0, st, es1, clock1, hrun, hv0, hst⟩ := Go.WideElems.entry_then_store K ht hz hb F hkey
      have hv : v0 = (m key).getD z := by
        rcases Go.Maps.fit_look false (Keyed.of_law K) ht (hz u) hb F hkey with ⟨l1, l2, _⟩ | ⟨e0, y, l1, l2, l3, _⟩
        · rcases hv0 with ⟨e0, a1, a2, _⟩ | ⟨_, a2⟩
          · exact absurd a2 (l2 e0 a1)
          · rw [hlook] at l1
            simp only [Result.ok.injEq] at l1
            rw [a2, l1.1]
            rfl
        · rcases hv0 with ⟨e1, a1, a2, a3⟩ | ⟨a1, _⟩
          · rw [hlook] at l3
            simp only [Result.ok.injEq] at l3
            have he : e0 = e1 := entry_eq_of_key (List.pairwise_map.1 F.stamped.2.2) l1 a1 (by rw [l2, a2])
            rw [a3, l3.1, he]
            rfl
          · exact absurd l2 (a1 e0 l1)
      subst hv
      refine ⟨(st, _), fun _ => ⟨hrun, ⟨_, rfl⟩, fun w2 val hw2 => ?_⟩⟩
      have hw2' : w2.heap[b]? = some (.map es1 clock1) := by
        rw [hw2]
        simp [hlt]
      obtain ⟨es', clock', r1, r2⟩ := hst w2 val hw2'
      obtain ⟨w', q1, q2, q3⟩ := hM'.store (Keyed.of_law K) ht hn hkey val
      rw [r2] at q1
      simp only [Result.ok.injEq, true_and] at q1
      refine ⟨_, r1, ⟨_, rfl⟩, fun m' h1 h2 => (q2 m' h1 h2).of_block ?_⟩
      have hl2 : b < w2.heap.size := (Array.getElem?_eq_some_iff.1 hw2').1
      rw [← q1]
      simp [Go.ChangeMaps.setBlock, hlt, hl2]
    · exact ⟨(0, u), fun h => absurd h hu⟩
  obtain ⟨f, hf⟩ := Classical.axiomOfChoice hall
  exact ⟨fun u => (f u).1, fun u => (f u).2, hf⟩
end Go.Proofs.Ybulkakms
