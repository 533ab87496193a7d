import Derived.Test.Qxb6600217aLaw5
import Derived.ProofKit
import Derived.OpenShut
import Derived.ShutString
import Derived.ChangeOld
namespace Go.Proofs.Qxb6600217a.fnDifferencesNamesExactlyTheDifferingCounts
open Go.ChangeShapes Go.WideShapes Go.ChangeAt Go.RowKit
set_option linter.unusedVariables false

theorem own : ownKnob Try.prog.godebug = none := by kernel_rfl
theorem laidOut : laidOutB Try.prog = true := by kernel_rfl
theorem cells47 : Try.prog.cellsOf 47 = 7 := by kernel_rfl
theorem cells2 : Try.prog.cellsOf 2 = 1 := by kernel_rfl

theorem array7 {α : Type} {cs : Array α} (h : cs.size = 7) : ∃ c0 c1 c2 c3 c4 c5 c6, cs = #[c0, c1, c2, c3, c4, c5, c6] := by
  obtain ⟨l⟩ := cs
  match l, h with
  | [c0, c1, c2, c3, c4, c5, c6], _ => exact ⟨c0, c1, c2, c3, c4, c5, c6, rfl⟩

/-- A totals by value: seven numbers. -/
theorem totals_form {H : Type} {enc : TypeId × Value → H} {W : World} {r : Reach} {b base : Nat} {spare : Nat → Bool} {held : Bool} {v : Value} {d : DataW H} {p : List MemPlace} (hv : Value.okWide Try.prog W r b 47 v) (h : DataW.Trod enc Try.prog W base spare held 47 v d p) :
    ∃ T : Nat → Int, v = .agg #[.int .i64 (T 0), .int .i64 (T 1), .int .i64 (T 2), .int .i64 (T 3), .int .i64 (T 4), .int .i64 (T 5), .int .i64 (T 6)] := by
  obtain ⟨cs, rfl, hsz⟩ := okWide_struct Try.underlying47 hv
  obtain ⟨c0, c1, c2, c3, c4, c5, c6, rfl⟩ := array7 (hsz.trans cells47)
  obtain ⟨fuel, hf⟩ := h
  obtain ⟨xs, n, _, _, _, hlen, hfs⟩ := DataW.trod_struct Try.underlying47 hf
  have g : ∀ i (hi : i < xs.length), xs[i]? = some (xs[i]'hi) := fun i hi => List.getElem?_eq_getElem hi
  have hl : xs.length = 7 := by simpa using hlen
  have k0 := hfs 0 _ rfl
  have k1 := hfs 1 _ rfl
  have k2 := hfs 2 _ rfl
  have k3 := hfs 3 _ rfl
  have k4 := hfs 4 _ rfl
  have k5 := hfs 5 _ rfl
  have k6 := hfs 6 _ rfl
  rw [g 0 (by omega)] at k0
  rw [g 1 (by omega)] at k1
  rw [g 2 (by omega)] at k2
  rw [g 3 (by omega)] at k3
  rw [g 4 (by omega)] at k4
  rw [g 5 (by omega)] at k5
  rw [g 6 (by omega)] at k6
  obtain ⟨n0, e0, _⟩ := DataW.trod_int Try.underlying2 k0
  obtain ⟨n1, e1, _⟩ := DataW.trod_int Try.underlying2 k1
  obtain ⟨n2, e2, _⟩ := DataW.trod_int Try.underlying2 k2
  obtain ⟨n3, e3, _⟩ := DataW.trod_int Try.underlying2 k3
  obtain ⟨n4, e4, _⟩ := DataW.trod_int Try.underlying2 k4
  obtain ⟨n5, e5, _⟩ := DataW.trod_int Try.underlying2 k5
  obtain ⟨n6, e6, _⟩ := DataW.trod_int Try.underlying2 k6
  simp [Value.cells, cells2] at e0 e1 e2 e3 e4 e5 e6
  subst e0 e1 e2 e3 e4 e5 e6
  exact ⟨fun i => [n0, n1, n2, n3, n4, n5, n6].getD i 0, rfl⟩

set_option maxRecDepth 100000 in
theorem lifted (os : Os) (started : os.Started) (H : Type) (enc : TypeId × Value → H) :
    ReturnsInHanded {} Try.checked os 5 .any (Rows.fnDifferencesNamesExactlyTheDifferingCountsSpec.pre6 enc Try.prog Try.f5 Rows.fnDifferencesNamesExactlyTheDifferingCountsRow.domain false) (Rows.fnDifferencesNamesExactlyTheDifferingCountsSpec.post enc Try.prog Try.f5 false true false false) := by
  refine returnsInHanded_of_change (C := Try.checked) own started (by kernel_rfl) Try.func5
    (ChangeSpec.witness6 (enc := enc) (C := Try.checked) false ⟨#[], #[.agg #[.int .i64 0, .int .i64 0, .int .i64 0, .int .i64 0, .int .i64 0, .int .i64 0, .int .i64 0], .agg #[.int .i64 0, .int .i64 0, .int .i64 0, .int .i64 0, .int .i64 0, .int .i64 0, .int .i64 0]], []⟩ 8 (by kernel_rfl) (by kernel_rfl) (by kernel_rfl) (by kernel_rfl)) ?_
  intro W base args ds gs before hval0 hW hcnd _
  have hval : ∀ (j : Nat) t v, Try.f5.params[j]? = some t → args[j]? = some v → Value.okWide Try.prog W .any base t v := hval0
  have hW' := hW
  obtain ⟨p, q, hA0, hV, rfl, hfz, hnd⟩ := hW
  have hA : DataW.TrodAll enc Try.prog W 0 (fun _ => true) true Try.f5.params.toList args.toList ds p := hA0
  rw [Try.params5] at hA hval
  obtain ⟨v0, vs0, d0, ds0, p0, q0, hargs, rfl, rfl, h0, r0⟩ := trodAll_cons hA
  obtain ⟨v1, vs1, d1, ds1, p1, q1, rfl, rfl, rfl, h1, r1⟩ := trodAll_cons r0
  obtain ⟨rfl, rfl, rfl⟩ := trodAll_nil r1
  obtain rfl : args = #[v0, v1] := by cases args; simp_all
  obtain ⟨rfl, rfl⟩ := trodVars_none hV
  obtain ⟨T, rfl⟩ := totals_form (hval 0 47 v0 rfl rfl) h0
  obtain ⟨U, rfl⟩ := totals_form (hval 1 47 v1 rfl rfl) h1
  have k0 := h0
  have k1 := h1
  have lt0 : ∀ x ∈ p0, x.block < W.heap.size := by obtain ⟨m, hm⟩ := k0; exact DataW.trod_lt m _ _ _ hm
  have lt1 : ∀ x ∈ p1, x.block < W.heap.size := by obtain ⟨m, hm⟩ := k1; exact DataW.trod_lt m _ _ _ hm
  clear hA0 hval0
  refine (law5 T U W).mono fun e W' ⟨he, bel⟩ => ?_
  subst he
  exact ⟨_, rfl, _, _, _, [], _, [], hW', trodAll_mk1 (shut_bool Try.underlying4 _), (trodAll_cons_mk (Below.trod laidOut (by kernel_rfl) (of_decide_eq_true (by kernel_rfl)) k0 bel lt0) (trodAll_cons_mk (Below.trod laidOut (by kernel_rfl) (of_decide_eq_true (by kernel_rfl)) k1 bel lt1) trodAll_mk0)), rfl, bel.frame _, fun h => by cases h⟩

theorem over : Rows.fnDifferencesNamesExactlyTheDifferingCountsRow.holds Try.pinned (OpenSpec.ofChange Rows.fnDifferencesNamesExactlyTheDifferingCountsSpec) :=
  OpenClaim.holds_of_wide 5 Try.f5 rfl rfl rfl rfl rfl rfl rfl ⟨rfl, rfl, rfl, rfl, rfl⟩ rfl rfl rfl rfl rfl (by kernel_rfl) Try.func5 (by kernel_rfl)
    (of_decide_eq_true (by kernel_rfl)) (by unfold Func.isWrapper; first | (rw [if_pos (by decide +kernel)]; kernel_rfl) | (rw [if_neg (by decide +kernel)]; exact ⟨rfl, rfl⟩))
    (fun os started H enc _ => lifted os started H enc)

theorem proved : Rows.FnDifferencesNamesExactlyTheDifferingCountsSaid := over
end Go.Proofs.Qxb6600217a.fnDifferencesNamesExactlyTheDifferingCounts
