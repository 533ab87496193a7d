import Derived.Test.Qxb6600216aPass
namespace Go.Proofs.Qxb6600216a
open Go.RowKit
set_option linter.unusedVariables false

/-- copy over the whole of a row of elements of z cells. -/
theorem run_copy_wide {P : Program} (w : World) (dT sT ty elem : TypeId) (g dLen dCap : Nat) (a : Addr) (sLen sCap : Nat) (cur : Array Value) (t : TypeId) (cs : List Value) (z : Nat)
    (hu : P.underlying dT = some (.slice elem)) (hs : (P.info? elem).map (·.size) = some z)
    (hg : w.heap[g]? = some (.cells cur t (0, 0))) (hn : cs.length = Nat.min sLen dLen * z)
    (hsrc : ∀ j v, cs[j]? = some v → w.cell? (a.add j) = some v) (hfit : cs.length = cur.size) (h1 : ∀ v ∈ cs, v.oneCell' = true) :
    (Builtin.copy_ #[dT, sT] ty #[.slice (some ⟨g, 0, none⟩) dLen dCap, .slice (some a) sLen sCap]).run P w = .ok (goInt (Nat.min sLen dLen)) (w.setRow g cs.toArray) := by
  have hl := run_loadCells_list (P := P) w a cs hsrc
  have hst := run_storeCells_at P g 0 t cs 0 cur w hg (by omega) h1
  rw [Nat.zero_add, Nat.zero_add, List.take_zero, List.nil_append, List.drop_eq_nil_of_le (by simp; omega), List.append_nil] at hst
  cases hq : P.info? elem with
  | none => simp [hq] at hs
  | some i =>
    have hi : i.size = z := by simpa [hq] using hs
    simp [Builtin.copy_, run_underlying hu, Builtin.lenOf, Builtin.firstCells, sizeOf, typeInfo, hq, hi, ← hn, hl, hst]

theorem wpList_copy_wide {P : Program} {w : World} {ops : Array Oper} {rest : List Oper} {o : Oper} {a : Act} {Q : Exit → Act → World → Prop} (hgd : o.guard = none) (d s : Operand) (dT sT : TypeId)
    (ho : o.op = .call { callee := .builtin .copy, args := #[d, s], argTypes := #[dT, sT] }) (elem : TypeId) (hu : P.underlying dT = some (.slice elem)) (z : Nat) (hsz : (P.info? elem).map (·.size) = some z)
    (g dLen dCap : Nat) (ad : Addr) (sLen sCap : Nat) (hd : a.eval d = .slice (some ⟨g, 0, none⟩) dLen dCap) (hs : a.eval s = .slice (some ad) sLen sCap)
    (cur : Array Value) (t : TypeId) (hg : w.heap[g]? = some (.cells cur t (0, 0))) (cs : List Value) (hn : cs.length = Nat.min sLen dLen * z)
    (hsrc : ∀ j v, cs[j]? = some v → w.cell? (ad.add j) = some v) (hfit : cs.length = cur.size) (h1 : ∀ v ∈ cs, v.oneCell' = true)
    (h : wpList P ops Q rest (a.put o.dst (goInt (Nat.min sLen dLen))) (w.setRow g cs.toArray)) : wpList P ops Q (o :: rest) a w := by
  refine wpList_plain hgd fun K hK => ?_
  have hrun := run_copy_wide (P := P) w dT sT o.type elem g dLen dCap ad sLen sCap cur t cs z hu hsz hg hn hsrc hfit h1
  unfold Oper.wp
  simp [execOp, ho, resolve, invoke, builtin, hd, hs, hrun, Result.andThen]
  exact hK _ _ h

theorem size34 : (Try.prog.info? 34).map (·.size) = some 4 := by kernel_rfl

theorem at_one (F : Flds) (c q : Nat) : (F.at c q).oneCell' = true := by
  unfold Flds.at
  split <;> rfl

/-- What a copy of one block of entries over the other needs. -/
theorem Pass.src {w wr : World} {be bs n C : Nat} {F : Flds} {d : Nat} (h : Pass w wr be bs n C F d bs be) (hne : be ≠ bs) :
    ∃ (cur : Array Value) (cs : List Value), wr.heap[be]? = some (.cells cur 34 (0, 0)) ∧ cs.length = n * 4 ∧ cur.size = n * 4 ∧ (∀ j v, cs[j]? = some v → wr.cell? ((⟨bs, 0, none⟩ : Addr).add j) = some v) ∧ (∀ v ∈ cs, v.oneCell' = true) ∧
      Ent (wr.setRow be cs.toArray) be n F (fun _ => True) (od (fd F.K d) n) ∧ Fr w (wr.setRow be cs.toArray) be bs := by
  obtain ⟨g, ⟨c, hb, hc, hcg⟩, hg⟩ := h.fro
  obtain ⟨g', ⟨c', hb', hc', _⟩, _⟩ := h.til
  refine ⟨c', c.toList, hb', by simpa using hc, hc', ?_, ?_, ?_, ?_⟩
  · intro j v hj
    rw [Addr.add_lit, Nat.zero_add, cell_of_row _ _ _ _ _ _ hb]
    simpa using hj
  · intro v hv
    obtain ⟨j, hj, e⟩ := List.getElem_of_mem hv
    have hj' : j < n * 4 := by simpa [hc] using hj
    have e1 := hcg j hj'
    have e2 := hg (j / 4) (by omega) trivial (j % 4) (by omega)
    rw [show j / 4 * 4 + j % 4 = j by omega] at e2
    rw [e2] at e1
    have : c[j]? = some v := by
      rw [← e]
      simp [Array.getElem?_eq_getElem (show j < c.size by omega)]
    rw [this] at e1
    rw [Option.some.inj e1]
    exact at_one _ _ _
  · exact ⟨g, ⟨c, by simpa using setRow_heap wr be c' c 34 (0, 0) hb', hc, hcg⟩, hg⟩
  · exact ⟨h.fr.os, h.fr.tape, h.fr.output, by have := h.fr.size; simpa [World.setRow] using this, fun i hi h1 h2 => by rw [setRow_other wr be i _ (by omega)]; exact h.fr.block i hi h1 h2⟩
end Go.Proofs.Qxb6600216a
