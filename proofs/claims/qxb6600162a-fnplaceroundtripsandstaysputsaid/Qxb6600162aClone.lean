import Derived.Test.Qxb6600162aBase
namespace Go.Proofs.Qxb6600162a
open Go.RowKit Go.Maps

theorem made9 (n : Nat) : (madeCells (Value.string ByteArray.empty).cells (n * 1)).toList = List.replicate n (.string ByteArray.empty) := by
  rw [Nat.mul_one]; exact toList_madeCells_one _ n

/-- The first k of xs, then whatever was there. -/
def part (ss : List ByteArray) (n k : Nat) : List Value := (ss.take k).map Value.string ++ List.replicate (n - k) (.string ByteArray.empty)

theorem part_step (ss : List ByteArray) (n k : Nat) (hk : k < n) (hn : n ≤ ss.length) : (part ss n k).set k (.string (ss.getD k ByteArray.empty)) = part ss n (k + 1) := by
  unfold part
  have e1 : ((ss.take k).map Value.string).length = k := by simp; omega
  obtain ⟨m, hm⟩ : ∃ m, n - k = m + 1 := ⟨n - k - 1, by omega⟩
  have e3 : n - (k + 1) = m := by omega
  rw [hm, e3, List.replicate_succ, List.set_append_right _ _ (by omega), e1, Nat.sub_self, List.set_cons_zero, List.take_succ_eq_append_getElem (by omega), List.map_append]
  have e2 : ss.getD k ByteArray.empty = ss[k]'(by omega) := by simp [List.getD, show k < ss.length by omega]
  rw [e2]
  simp

theorem part_full (ss : List ByteArray) (n : Nat) : part ss n n = (ss.take n).map Value.string := by simp [part]
theorem part_zero (ss : List ByteArray) (n : Nat) : part ss n 0 = List.replicate n (.string ByteArray.empty) := by simp [part]

theorem grown_new {w w1 w2 : World} {g : Nat} (h : w.grownBy w1 none) (k : w1.grownBy w2 (some g)) (hg : w.heap.size ≤ g) : w.grownBy w2 none :=
  ⟨k.os.trans h.os, k.tape.trans h.tape, k.output.trans h.output, Nat.le_trans h.size k.size, fun i hi _ => (k.block i (Nat.lt_of_lt_of_le hi h.size) (by intro e; cases e; omega)).trans (h.block i hi (by simp))⟩

theorem hide {p : Prop} (h : p) : Hid p := h
theorem unhide {p : Prop} (h : Hid p) : p := h

set_option maxHeartbeats 400000 in
theorem clone8 (a : Option Addr) (len cap : Nat) (ss : List ByteArray) (w : World) (h : Texts w a len ss) (hm : len ≤ 4096) :
    Calls Try.prog 8 #[.slice a len cap] w fun e w' => ∃ v, e = .returned v ∧ w'.ownsRow w.heap.size 9 1 v len ((ss.take len).map Value.string) ∧ w.grownBy w' none := by
  refine hidR fun R HR => ?_
  obtain ⟨i0, hi, hz0, hz1, hz2⟩ := info_parts info9
  have heq := fun n c n' c' => Lib.run_eql_slice_nil (P := Try.prog) w 22 9 a n c n' c' Try.underlying22
  cases a with
  | none =>
    have h0 : len = 0 := by
      rcases Nat.eq_zero_or_pos len with h0 | h0
      · exact h0
      · obtain ⟨b, off, hx, _⟩ := h.2 0 h0
        cases hx
    subst h0
    clear h
    go_enter Try.func8, Try.ntmps8
    go_wp2
    exact HR.out _ _ ⟨_, rfl, by simpa using World.ownsRow_nil w _ 9 1, World.grownBy.refl _ _⟩
  | some x =>
    go_enter Try.func8, Try.ntmps8
    go_wp2_with (first
      | (at_make; refine wpList_make_full _ rfl _ _ 22 rfl w.heap.size 9 i0 _ 1 Try.underlying22 hi hz0 hz1 _ _ _ _ len rfl rfl rfl rfl (by rw [hz2]; omega) (by unfold maxLen; omega) (Nat.le_refl _) ?_; intro w1 hown1 hgrow1))
    have hown1' : w1.ownsRow w.heap.size 9 1 (.slice (some ⟨w.heap.size, 0, none⟩) len len) len (part ss len 0) := by rw [part_zero, ← made9]; exact hown1
    clear hown1 heq hi hz0 hz1 hz2
    go_loopw [4] (fun i wr => ∃ k : Nat, k ≤ len ∧ i = .int .i64 k ∧ wr.ownsRow w.heap.size 9 1 (.slice (some ⟨w.heap.size, 0, none⟩) len len) len (part ss len k) ∧ w.grownBy wr none) (fun i _ => len - (intOf i).toNat)
    case atStart => exact ⟨0, Nat.zero_le _, rfl, hown1', hgrow1⟩
    case round =>
      obtain ⟨k, hk, rfl, hown, hg⟩ := hrel
      by_cases hlt : k < len
      · obtain ⟨b, off, hx, hb, hc⟩ := h.2 k hlt
        obtain rfl := Option.some.inj hx
        have hck : wr.cell? ⟨b, off + k, none⟩ = some (.string (ss.getD k ByteArray.empty)) := hg.cell (hc k hlt) (by simp)
        have hlen := h.1
        have hfz := hown.frozenAt k
        have hold := hown.cellAt k (by omega)
        have hpk : k < (part ss len k).length := by simp [part]; omega
        rw [List.getElem?_eq_getElem hpk] at hold
        obtain ⟨u, hu⟩ : ∃ u, (part ss len k)[k] = u := ⟨_, rfl⟩
        rw [hu] at hold
        have hst := hown.stored k (.string (ss.getD k ByteArray.empty))
        rw [part_step ss len k hlt hlen] at hst
        have HST := hide hst
        clear hst hown hu hpk h hc hown1' hgrow1
        go_wp2
        go_roundw
        case rel => exact ⟨k + 1, by omega, by go_num, (unhide HST).1, grown_new hg (unhide HST).2 (Nat.le_refl _)⟩
        case measure => simp [intOf]; omega
      · have e : k = len := by omega
        subst e
        go_wp2
        exact HR.out _ _ ⟨_, rfl, by rw [← part_full]; exact hown, hg⟩
end Go.Proofs.Qxb6600162a
