import Derived.Test.Qxb6600216aBase
namespace Go.Proofs.Qxb6600216a
open Go.RowKit

theorem wr64 (x : Int) : IntKind.i64.wrap x = wrap64 x := by rw [IntKind.wrap_i64]; unfold wrap64; rfl

theorem bits_xor (a b : Int) : bits .xor .i64 a b = wrap64 ((BitVec.ofInt 64 a ^^^ BitVec.ofInt 64 b).toNat : Int) := by
  rw [← wr64]; rfl
theorem bits_and (a b : Int) : bits .and .i64 a b = wrap64 ((BitVec.ofInt 64 a &&& BitVec.ofInt 64 b).toNat : Int) := by
  rw [← wr64]; rfl

/-- An int64's sign out of its bits. -/
theorem neg_iff (x : BitVec 64) : wrap64 (x.toNat : Int) < 0 ↔ x.msb = true := by
  rw [BitVec.msb_eq_decide]
  have := x.isLt
  simp
  unfold wrap64
  omega

theorem ofInt_wrap (x : BitVec 64) : BitVec.ofInt 64 (wrap64 (x.toNat : Int)) = x := by
  apply BitVec.eq_of_toNat_eq
  rw [BitVec.toNat_ofInt]
  have := x.isLt
  unfold wrap64
  simp
  omega

theorem msb_int {x : Int} (h1 : -9223372036854775808 ≤ x) (h2 : x ≤ 9223372036854775807) : (BitVec.ofInt 64 x).msb = decide (x < 0) := by
  rw [BitVec.msb_eq_decide, BitVec.toNat_ofInt]
  simp
  omega

/-- The test of checked.add. -/
theorem over_iff {a b s : Int} (ha1 : -9223372036854775808 ≤ a) (ha2 : a ≤ 9223372036854775807) (hb1 : -9223372036854775808 ≤ b) (hb2 : b ≤ 9223372036854775807)
    (hs1 : -9223372036854775808 ≤ s) (hs2 : s ≤ 9223372036854775807) :
    bits .and .i64 (bits .xor .i64 s a) (bits .xor .i64 s b) < 0 ↔ (decide (s < 0) ≠ decide (a < 0) ∧ decide (s < 0) ≠ decide (b < 0)) := by
  rw [bits_and, neg_iff, bits_xor, bits_xor, ofInt_wrap, ofInt_wrap, BitVec.msb_and, BitVec.msb_xor, BitVec.msb_xor, msb_int hs1 hs2, msb_int ha1 ha2, msb_int hb1 hb2]
  cases decide (s < 0) <;> cases decide (a < 0) <;> cases decide (b < 0) <;> simp

theorem wrap64_bd (x : Int) : -9223372036854775808 ≤ wrap64 x ∧ wrap64 x ≤ 9223372036854775807 := by unfold wrap64; omega

def Fits (x : Int) : Prop := -9223372036854775808 ≤ x ∧ x ≤ 9223372036854775807

theorem over_sum {a b : Int} (ha : Fits a) (hb : Fits b) : bits .and .i64 (bits .xor .i64 (wrap64 (a + b)) a) (bits .xor .i64 (wrap64 (a + b)) b) < 0 ↔ ¬ Fits (a + b) := by
  have hw := wrap64_bd (a + b)
  rw [over_iff ha.1 ha.2 hb.1 hb.2 hw.1 hw.2]
  obtain ⟨a1, a2⟩ := ha
  obtain ⟨b1, b2⟩ := hb
  simp only [ne_eq, decide_eq_decide]
  unfold Fits
  generalize hs : wrap64 (a + b) = s at *
  unfold wrap64 at hs
  omega

theorem nat_top {r : Nat} (h : r < 9223372036854775808) : r ^^^ 9223372036854775808 = 9223372036854775808 + r := by
  have e : (9223372036854775808 : Nat) = 2 ^ 63 := by decide
  rw [e] at h ⊢
  apply Nat.eq_of_testBit_eq
  intro i
  rw [Nat.testBit_xor, Nat.testBit_two_pow]
  rcases Nat.lt_trichotomy i 63 with hi | hi | hi
  · have d : decide (63 = i) = false := by simp; omega
    rw [Nat.testBit_two_pow_add_gt hi, d]
    simp
  · subst hi
    rw [Nat.testBit_two_pow_add_eq]
    simp
  · have h1 : r.testBit i = false := Nat.testBit_lt_two_pow (Nat.lt_of_lt_of_le h (Nat.pow_le_pow_right (by decide) (by omega)))
    have h2 : (2 ^ 63 + r).testBit i = false := Nat.testBit_lt_two_pow (Nat.lt_of_lt_of_le (show 2 ^ 63 + r < 2 ^ 64 by omega) (Nat.pow_le_pow_right (by decide) (by omega)))
    rw [h1, h2]
    simp; omega

/-- The widest range of steps. -/
theorem xor_top {x : Int} (h : Fits x) : bits .xor .u64 (IntKind.u64.wrap x) 9223372036854775808 = x + 9223372036854775808 := by
  obtain ⟨h1, h2⟩ := h
  obtain ⟨y, hy⟩ : ∃ y : Nat, (y : Int) = IntKind.u64.wrap x := ⟨(IntKind.u64.wrap x).toNat, by rw [IntKind.wrap_u64]; omega⟩
  have hy' := hy
  rw [IntKind.wrap_u64] at hy'
  have hyl : y < 18446744073709551616 := by omega
  have := u64_xor_nat y 9223372036854775808 hyl (by omega)
  rw [← hy]
  rw [show (9223372036854775808 : Int) = ((9223372036854775808 : Nat) : Int) from rfl, this]
  have e : y ^^^ 9223372036854775808 = if y < 9223372036854775808 then y + 9223372036854775808 else y - 9223372036854775808 := by
    by_cases hlt : y < 9223372036854775808
    · rw [if_pos hlt, Nat.add_comm]; exact nat_top hlt
    · rw [if_neg hlt]
      obtain ⟨r, hr⟩ : ∃ r, y = 9223372036854775808 + r := ⟨y - 9223372036854775808, by omega⟩
      have hrl : r < 9223372036854775808 := by omega
      rw [hr, ← nat_top hrl, Nat.xor_assoc, Nat.xor_self, Nat.xor_zero, nat_top hrl]
      omega
  rw [e]
  split <;> omega

theorem div_small {x sp : Int} (h0 : 0 ≤ x) (h1 : x ≤ 18446744073709551615) (hs : 100 ≤ sp) : 0 ≤ x / sp ∧ x / sp ≤ 184467440737095516 := by
  refine ⟨Int.ediv_nonneg h0 (by omega), ?_⟩
  have h2 : x / sp ≤ x / 100 := by
    rcases Int.lt_or_le (x / sp) 1 with h | h
    · have := Int.ediv_nonneg h0 (show (0 : Int) ≤ 100 by decide)
      omega
    · rw [Int.le_ediv_iff_mul_le (by decide)]
      have h3 : x / sp * sp ≤ x := Int.ediv_mul_le x (by omega)
      have h4 : x / sp * 100 ≤ x / sp * sp := Int.mul_le_mul_of_nonneg_left hs (by omega)
      omega
  omega

theorem up_eq {st : Int} (h : Fits st) : IntKind.u64.wrap (9223372036854775807 - IntKind.u64.wrap st) = 9223372036854775807 - st := by
  obtain ⟨h1, h2⟩ := h
  simp only [IntKind.wrap_u64]
  omega

theorem wrap64_small {x : Int} (h1 : -9223372036854775808 ≤ x) (h2 : x ≤ 9223372036854775807) : wrap64 x = x := by unfold wrap64; omega

theorem hi_eq {st sp : Int} (h : Fits st) (hs : 100 ≤ sp) : wrap64 (IntKind.u64.wrap ((IntKind.u64.wrap (9223372036854775807 - IntKind.u64.wrap st)).tdiv sp)) = (9223372036854775807 - st) / sp := by
  rw [up_eq h]
  obtain ⟨h1, h2⟩ := h
  have h0 : 0 ≤ 9223372036854775807 - st := by omega
  rw [Int.tdiv_eq_ediv_of_nonneg h0]
  have hb := div_small h0 (by omega) hs
  rw [IntKind.wrap_u64, Int.emod_eq_of_lt hb.1 (by omega), wrap64_small (by omega) (by omega)]

theorem lo_eq {st sp : Int} (h : Fits st) (hs : 100 ≤ sp) : wrap64 (-wrap64 (IntKind.u64.wrap ((bits .xor .u64 (IntKind.u64.wrap st) 9223372036854775808).tdiv sp))) = -((st + 9223372036854775808) / sp) := by
  rw [xor_top h]
  obtain ⟨h1, h2⟩ := h
  have h0 : 0 ≤ st + 9223372036854775808 := by omega
  rw [Int.tdiv_eq_ediv_of_nonneg h0]
  have hb := div_small h0 (by omega) hs
  rw [IntKind.wrap_u64, Int.emod_eq_of_lt hb.1 (by omega), wrap64_small (x := (st + 9223372036854775808) / sp) (by omega) (by omega), wrap64_small (by omega) (by omega)]

theorem fl_eq {sp : Int} (hs : 100 ≤ sp) : wrap64 (-Int.tdiv 9223372036854775808 sp) = -(9223372036854775808 / sp) := by
  rw [Int.tdiv_eq_ediv_of_nonneg (by decide)]
  have hb := div_small (x := 9223372036854775808) (by decide) (by decide) hs
  rw [wrap64_small (by omega) (by omega)]

/-- What the bounds say. -/
structure Bounds (st sp lo hi fl fh : Int) : Prop where
  steps : ∀ k, Fits (st + k * sp) ↔ lo ≤ k ∧ k ≤ hi
  figs : ∀ k, Fits (k * sp) ↔ fl ≤ k ∧ k ≤ fh
  b1 : -200000000000000000 ≤ lo
  b2 : hi ≤ 200000000000000000
  b3 : -200000000000000000 ≤ fl
  b4 : fh ≤ 200000000000000000

theorem bounds_of {st sp : Int} (h : Fits st) (hs : 100 ≤ sp) : Bounds st sp (-((st + 9223372036854775808) / sp)) ((9223372036854775807 - st) / sp) (-(9223372036854775808 / sp)) (9223372036854775807 / sp) := by
  obtain ⟨h1, h2⟩ := h
  have q1 := div_small (x := st + 9223372036854775808) (by omega) (by omega) hs
  have q2 := div_small (x := 9223372036854775807 - st) (by omega) (by omega) hs
  have q3 := div_small (x := 9223372036854775808) (by omega) (by omega) hs
  have q4 := div_small (x := 9223372036854775807) (by omega) (by omega) hs
  have hp : 0 < sp := by omega
  refine ⟨fun k => ?_, fun k => ?_, by omega, by omega, by omega, by omega⟩
  · have e1 : k ≤ (9223372036854775807 - st) / sp ↔ k * sp ≤ 9223372036854775807 - st := Int.le_ediv_iff_mul_le hp
    have e2 : -k ≤ (st + 9223372036854775808) / sp ↔ -k * sp ≤ st + 9223372036854775808 := Int.le_ediv_iff_mul_le hp
    rw [Int.neg_mul] at e2
    unfold Fits
    constructor
    · rintro ⟨a, b⟩
      exact ⟨by have := e2.2 (by omega); omega, e1.2 (by omega)⟩
    · rintro ⟨a, b⟩
      have := e2.1 (by omega)
      have := e1.1 b
      omega
  · have e1 : k ≤ 9223372036854775807 / sp ↔ k * sp ≤ 9223372036854775807 := Int.le_ediv_iff_mul_le hp
    have e2 : -k ≤ 9223372036854775808 / sp ↔ -k * sp ≤ 9223372036854775808 := Int.le_ediv_iff_mul_le hp
    rw [Int.neg_mul] at e2
    unfold Fits
    constructor
    · rintro ⟨a, b⟩
      exact ⟨by have := e2.2 (by omega); omega, e1.2 (by omega)⟩
    · rintro ⟨a, b⟩
      have := e2.1 (by omega)
      have := e1.1 b
      omega

theorem fen_yes {x sp : Int} (hs : 100 ≤ sp) (hf : Fits (x * sp)) : wrap64 (x * sp) = x * sp ∧ (x * sp).tdiv sp = x :=
  ⟨wrap64_small hf.1 hf.2, Int.mul_tdiv_cancel x (by omega)⟩

theorem fen_no {x sp : Int} (hs : 100 ≤ sp) (hsp : sp ≤ 9223372036854775807) (hf : ¬ Fits (x * sp)) : (wrap64 (x * sp)).tdiv sp ≠ x := by
  intro e
  have h1 := Int.mul_tdiv_add_tmod (wrap64 (x * sp)) sp
  rw [e] at h1
  have h2 := Int.tmod_lt_of_pos (wrap64 (x * sp)) (show 0 < sp by omega)
  have h3 : -sp < (wrap64 (x * sp)).tmod sp := by
    have := Int.neg_lt_of_neg_lt (Int.tmod_lt_of_pos (-(wrap64 (x * sp))) (show 0 < sp by omega) |> fun h => by rw [Int.neg_tmod] at h; exact h)
    omega
  have h4 : sp * x = x * sp := Int.mul_comm _ _
  rw [h4] at h1
  have hw := wrap64_bd (x * sp)
  apply hf
  generalize hy : x * sp = y at *
  generalize hr : (wrap64 y).tmod sp = r at *
  unfold wrap64 at h1 hw
  unfold Fits
  omega

theorem tot_eq {st sp k : Int} (hf : Fits (st + k * sp)) : wrap64 (st + wrap64 (k * sp)) = st + k * sp := by
  obtain ⟨h1, h2⟩ := hf
  generalize k * sp = y at *
  unfold wrap64
  omega

theorem tdiv_fits {y sp : Int} (hs : 100 ≤ sp) (hy : Fits y) : wrap64 (y.tdiv sp) = y.tdiv sp := by
  obtain ⟨h1, h2⟩ := hy
  rcases Int.lt_or_le y 0 with h | h
  · have e : y.tdiv sp = -((-y).tdiv sp) := by rw [Int.neg_tdiv]; omega
    rw [e, Int.tdiv_eq_ediv_of_nonneg (by omega)]
    have := div_small (x := -y) (by omega) (by omega) hs
    exact wrap64_small (by omega) (by omega)
  · rw [Int.tdiv_eq_ediv_of_nonneg h]
    have := div_small h (by omega) hs
    exact wrap64_small (by omega) (by omega)
end Go.Proofs.Qxb6600216a
