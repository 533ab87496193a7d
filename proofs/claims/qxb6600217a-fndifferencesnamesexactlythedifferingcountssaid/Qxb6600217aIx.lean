import Derived.Test.Qxb6600217aBase
import Derived.Deep.OwnRows
namespace Go.Proofs.Qxb6600217a
open Go.RowKit

/-- Which of the first k counts differ. -/
def ix (T U : Nat → Int) : Nat → List Nat
  | 0 => []
  | k + 1 => if T k = U k then ix T U k else ix T U k ++ [k]

theorem df_ix (T U : Nat → Int) : ∀ k, df T U k = (ix T U k).map nm
  | 0 => rfl
  | k + 1 => by
    unfold df ix
    rw [df_ix T U k]
    split <;> simp

theorem ix_mem (T U : Nat → Int) (j : Nat) : ∀ k, j ∈ ix T U k ↔ j < k ∧ ¬ T j = U j
  | 0 => by simp [ix]
  | k + 1 => by
    unfold ix
    split
    · rename_i h
      rw [ix_mem T U j k]
      constructor
      · rintro ⟨a, b⟩; exact ⟨by omega, b⟩
      · rintro ⟨a, b⟩
        refine ⟨?_, b⟩
        by_cases e : j = k
        · subst e; exact absurd h b
        · omega
    · rename_i h
      rw [List.mem_append, ix_mem T U j k, List.mem_singleton]
      constructor
      · rintro (⟨a, b⟩ | rfl)
        · exact ⟨by omega, b⟩
        · exact ⟨by omega, h⟩
      · rintro ⟨a, b⟩
        by_cases e : j = k
        · exact .inr e
        · exact .inl ⟨by omega, b⟩

theorem ix_sorted (T U : Nat → Int) : ∀ k, (ix T U k).Pairwise (· < ·)
  | 0 => List.Pairwise.nil
  | k + 1 => by
    unfold ix
    split
    · exact ix_sorted T U k
    · rw [List.pairwise_append]
      refine ⟨ix_sorted T U k, by simp, ?_⟩
      intro a ha b hb
      rw [List.mem_singleton] at hb
      rw [ix_mem] at ha
      omega

/-- The place of the name before. -/
def pv (X : List Nat) : Nat → Int
  | 0 => -1
  | i + 1 => (X.getD i 0 : Nat)

theorem pv_lt {X : List Nat} (h : X.Pairwise (· < ·)) {i : Nat} (hi : i < X.length) : pv X i < (X.getD i 0 : Nat) := by
  cases i with
  | zero => show (-1 : Int) < _; omega
  | succ i =>
    have := List.pairwise_iff_getElem.1 h i (i + 1) (by omega) hi (by omega)
    unfold pv
    simp only [List.getD_eq_getElem?_getD, List.getElem?_eq_getElem hi, List.getElem?_eq_getElem (show i < X.length by omega), Option.getD_some]
    omega

/-- What is marked after i names. -/
def sb (X : List Nat) (i j : Nat) : Bool := decide (j ∈ X.take i)

theorem sb_zero (X : List Nat) (j : Nat) : sb X 0 j = false := by simp [sb]
theorem sb_next {X : List Nat} {i : Nat} (hi : i < X.length) (j : Nat) : sb X (i + 1) j = if j = X.getD i 0 then true else sb X i j := by
  unfold sb
  rw [List.take_add_one]
  simp only [List.getElem?_eq_getElem hi, List.getD_eq_getElem?_getD, Option.getD_some, Option.toList_some, List.mem_append, List.mem_singleton]
  by_cases e : j = X[i] <;> simp [e]
theorem sb_full (T U : Nat → Int) {j : Nat} (hj : j < 7) : sb (ix T U 7) (ix T U 7).length j = (T j != U j) := by
  unfold sb
  rw [List.take_length]
  by_cases h : T j = U j
  · simp [ix_mem, h]
  · have : (T j != U j) = true := by simp [h]
    rw [this]
    simp [ix_mem, h, hj]

theorem canon_at (w : World) : ∀ j, j < 7 → Calls Try.prog 15 #[.string (nm j)] w fun e w' => e = .returned (.int .i64 (j : Nat)) ∧ w = w' := by
  intro j hj
  refine hidR fun R HR => ?_
  rcases (show j = 0 ∨ j = 1 ∨ j = 2 ∨ j = 3 ∨ j = 4 ∨ j = 5 ∨ j = 6 by omega) with rfl | rfl | rfl | rfl | rfl | rfl | rfl
  all_goals (simp only [nm, n0, n1, n2, n3, n4, n5, n6]; go_enter Try.func15, Try.ntmps15; go_wp2; exact HR.out _ _ ⟨rfl, rfl⟩)

theorem ownsRow_setOther {w : World} {b e size n : Nat} {v : Value} {xs : List Value} (h : w.ownsRow b e size v n xs) {a : Addr} (ha : v.ownBlock ≠ some a.block) (u : Value) : (w.setCell a u).ownsRow b e size v n xs :=
  ownsRow_setCell_other (a := a) h ha u
end Go.Proofs.Qxb6600217a
