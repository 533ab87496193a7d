import Derived.Test.Qxb6600216aLay
namespace Go.Proofs.Qxb6600216a
open Go.RowKit

/-- A boundary whose runs before it hold at most 64 records. -/
def Fit (A S : Nat → Int) (n i : Nat) : Prop := Edge A n i ∧ sm S i ≤ 64

theorem fit_dec (A S : Nat → Int) (n i : Nat) : Fit A S n i ∨ ¬ Fit A S n i := Classical.em _

/-- The last such boundary up to k, or 0. -/
def Best (A S : Nat → Int) (n k b : Nat) : Prop := b ≤ k ∧ (0 < b → Fit A S n b) ∧ ∀ i, b < i → i ≤ k → ¬ Fit A S n i

theorem best_zero (A S : Nat → Int) (n : Nat) : Best A S n 0 0 := ⟨Nat.le_refl _, fun h => absurd h (by omega), fun i h1 h2 => absurd h1 (by omega)⟩
theorem best_yes {A S : Nat → Int} {n k b : Nat} (_h : Best A S n k b) (hf : Fit A S n (k + 1)) : Best A S n (k + 1) (k + 1) := ⟨Nat.le_refl _, fun _ => hf, fun i h1 h2 => absurd h1 (by omega)⟩
theorem best_no {A S : Nat → Int} {n k b : Nat} (h : Best A S n k b) (hf : ¬ Fit A S n (k + 1)) : Best A S n (k + 1) b := by
  refine ⟨by have := h.1; omega, h.2.1, fun i h1 h2 => ?_⟩
  by_cases e : i = k + 1
  · rw [e]; exact hf
  · exact h.2.2 i h1 (by omega)

theorem best_uniq {A S : Nat → Int} {n k b c : Nat} (h : Best A S n k b) (h' : Best A S n k c) : b = c := by
  rcases Nat.lt_trichotomy b c with hlt | e | hlt
  · exact absurd (h'.2.1 (by omega)) (h.2.2 c hlt h'.1)
  · exact e
  · exact absurd (h.2.1 (by omega)) (h'.2.2 b hlt h.1)

theorem sm_mono {S : Nat → Int} {n : Nat} (hS : ∀ j, j < n → 0 ≤ S j) : ∀ {i j}, i ≤ j → j ≤ n → sm S i ≤ sm S j := by
  intro i j hij hj
  induction j with
  | zero => rw [show i = 0 by omega]; exact Int.le_refl _
  | succ j ih =>
    by_cases e : i = j + 1
    · rw [e]; exact Int.le_refl _
    · have := ih (by omega) (by omega)
      have := hS j (by omega)
      simp only [sm]
      omega

/-- The first account's block. -/
def Lead (A : Nat → Int) (n t : Nat) : Prop := t ≤ n ∧ (∀ j, j < t → A j = A 0) ∧ (t = n ∨ A t ≠ A 0)

theorem lead_uniq {A : Nat → Int} {n t u : Nat} (h : Lead A n t) (h' : Lead A n u) : t = u := by
  rcases Nat.lt_trichotomy t u with hlt | e | hlt
  · rcases h.2.2 with e | e
    · have := h'.1; omega
    · exact absurd (h'.2.1 t hlt) e
  · exact e
  · rcases h'.2.2 with e | e
    · have := h.1; omega
    · exact absurd (h.2.1 u hlt) e

theorem bend_best {A S : Nat → Int} {n k : Nat} {f : Bool} (h : BEnd A S n k f) (hS : ∀ j, j < n → 0 ≤ S j) {b : Nat} (hb : Best A S n n b) :
    (0 < b → k = b ∧ f = (A 0 != A (b - 1))) ∧ (b = 0 → f = false ∧ Lead A n k) := by
  obtain ⟨m, hm, hpos, hx, hr⟩ := h
  have hbest : Best A S n n m := by
    refine ⟨hm, fun h0 => hpos h0, fun i h1 h2 hf => ?_⟩
    rcases hx with e | ⟨e, he1, he2, hall, _, h64⟩
    · omega
    · by_cases hie : i < e
      · rcases hf.1 with e' | e'
        · omega
        · exact e' (by rw [hall i (by omega) hie, hall (i - 1) (by omega) (by omega)])
      · have := sm_mono hS (show e ≤ i by omega) h2
        have := hf.2
        omega
  have e := best_uniq hbest hb
  subst e
  rcases hr with ⟨h0, rfl, rfl⟩ | ⟨rfl, rfl, hk, hall, hxx⟩
  · refine ⟨fun _ => ⟨rfl, ?_⟩, fun h => absurd h (by omega)⟩
    cases hb : (A 0 != A (k - 1)) <;> simp_all
  · exact ⟨fun h => absurd h (by omega), fun _ => ⟨rfl, hk, hall, hxx⟩⟩

theorem wrap32_in {x : Int} (h1 : -2147483648 ≤ x) (h2 : x ≤ 2147483647) : wrap32 x = x := by unfold wrap32; omega

theorem below_drawn (w : World) (n : Nat) {B : Nat} : Below B w (w.drewN n) := ⟨rfl, rfl, rfl, Nat.le_refl _, fun _ _ => rfl⟩

theorem good_succ {zf ze : List Int} {k : Nat} {xf xe : Int} (h : ∀ j, j < k → 0 ≤ zf.getD j 0 ∧ zf.getD j 0 ≤ ze.getD j 0) (hf : xf = zf.getD k 0) (he : xe = ze.getD k 0) (h1 : 0 ≤ xf) (h2 : xf ≤ xe) :
    ∀ j, j < k + 1 → 0 ≤ zf.getD j 0 ∧ zf.getD j 0 ≤ ze.getD j 0 := by
  intro j hj
  by_cases e : j = k
  · rw [e, ← hf, ← he]; exact ⟨h1, h2⟩
  · exact h j (by omega)
end Go.Proofs.Qxb6600216a
