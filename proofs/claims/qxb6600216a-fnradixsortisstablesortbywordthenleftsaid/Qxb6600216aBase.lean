import Derived.Test.Qxb6600216aRows
import Derived.WalkKit
import Derived.WalkSpells
import Derived.WalkLawsBesides
import Derived.Maps.AppendAt
import Derived.BigQuiet
import Derived.Deep.QuietTactic
import Derived.Deep.LoopGhost
import Derived.Deep.RegionWith
import Derived.Laws.CopyOwn
namespace Go.Proofs.Qxb6600216a
open Go.RowKit

/-- The walk goes on under a postcondition that is a variable: its own rules cannot look into it. -/
theorem hidR {P : Program} {f : FuncId} {args : Array Value} {w : World} {Post : Ending → World → Prop}
    (h : ∀ R : Ending → World → Prop, Hid (∀ e w', Post e w' → R e w') → Calls P f args w R) : Calls P f args w Post := h Post (fun _ _ h => h)
theorem hide {p : Prop} (h : p) : Hid p := h
theorem unhide {p : Prop} (h : Hid p) : p := h

/-- The cells of a slice, asked for only where there is an element. -/
def Cells (w : World) (a : Option Addr) (len : Nat) (vs : List Value) : Prop :=
  vs.length = len ∧ (∀ v ∈ vs, v.oneCell' = true) ∧ ∀ k, k < len → ∃ b off, a = some ⟨b, off, none⟩ ∧ b < w.heap.size ∧ ∀ j, j < len → w.cell? ⟨b, off + j, none⟩ = vs[j]?

theorem grown_new {w w1 w2 : World} {g : Nat} (h : w.grownBy w1 none) (k : w1.grownBy w2 (some g)) (hg : w.heap.size ≤ g) : w.grownBy w2 none :=
  ⟨k.os.trans h.os, k.tape.trans h.tape, k.output.trans h.output, Nat.le_trans h.size k.size, fun i hi _ => (k.block i (Nat.lt_of_lt_of_le hi h.size) (by intro e; cases e; omega)).trans (h.block i hi (by simp))⟩

theorem grown_of_below {w w' : World} (h : Below w.heap.size w w') : w.grownBy w' none := ⟨h.os, h.tape, h.output, h.size, fun k hk _ => h.block k hk⟩
theorem below_of_grown {w w' : World} {B : Nat} (h : w.grownBy w' none) (hB : B ≤ w.heap.size) : Below B w w' := (Below.refl B w).grown h hB (by simp)

theorem row_of_owns {w : World} {base e n g cap : Nat} {xs : List Value} (h : w.ownsRow base e 1 (.slice (some ⟨g, 0, none⟩) n cap) n xs) (hn : cap = n) : w.heap[g]? = some (.cells xs.toArray e (0, 0)) := by
  rcases h.2 with ⟨e1, _⟩ | ⟨g', cap', cur, e1, _, hg, _, _, hs, ht⟩
  · cases e1
  · cases e1
    rw [hg]
    have : cur.toList.take (n * 1) = cur.toList := List.take_of_length_le (by simp; omega)
    rw [this] at ht
    rw [← ht]

theorem owns_of_row {w : World} {base e n g : Nat} {xs : List Value} (h : w.heap[g]? = some (.cells xs.toArray e (0, 0))) (hb : base ≤ g) (hn : xs.length = n) (hm : n ≤ maxLen) : w.ownsRow base e 1 (.slice (some ⟨g, 0, none⟩) n n) n xs :=
  ⟨by omega, .inr ⟨g, n, xs.toArray, rfl, hb, h, Nat.le_refl _, hm, by simp; omega, List.take_of_length_le (by simp; omega)⟩⟩

theorem splice_all {α : Type} (L cs : List α) (h : cs.length = L.length) : splice L 0 cs = cs := by
  unfold splice
  rw [List.take_zero, Nat.zero_add, List.drop_of_length_le (by omega)]
  simp

theorem copy_src {w w1 : World} {x : Addr} {len : Nat} {vs : List Value} (h : Cells w (some x) len vs) (hg : w.grownBy w1 none) :
    0 < vs.length → some (⟨w.heap.size, 0, none⟩ : Addr) = some ⟨w.heap.size, 0, none⟩ ∧ ∃ ad, some x = some ad ∧ ∀ j v, vs[j]? = some v → w1.cell? (ad.add j) = some v := by
  intro h0
  refine ⟨rfl, x, rfl, fun j v hj => ?_⟩
  have hl := h.1
  have hjl := (List.getElem?_eq_some_iff.1 hj).1
  obtain ⟨b, off, hx, hb, hc⟩ := h.2.2 0 (by omega)
  obtain rfl := Option.some.inj hx
  rw [Addr.add_lit]
  exact hg.cell ((hc j (by omega)).trans hj) (by simp)

theorem info32 : (Try.prog.info? 32).map (fun i => (i.zero, i.size, i.bytes)) = some (some (.int .u64 0), 1, 8) := by kernel_rfl
theorem size32 : (Try.prog.info? 32).map (·.size) = some 1 := by kernel_rfl

set_option maxHeartbeats 400000 in
theorem clone8 (a : Option Addr) (len cap : Nat) (vs : List Value) (w : World) (h : Cells w a len vs) (hm : len ≤ 1048576) :
    Calls Try.prog 8 #[.slice a len cap] w fun e w' => ∃ v, e = .returned v ∧ w'.ownsRow w.heap.size 32 1 v len vs ∧ w.grownBy w' none := by
  refine hidR fun R HR => ?_
  obtain ⟨i0, hi, hz0, hz1, hz2⟩ := info_parts info32
  have heq := fun n c n' c' => Lib.run_eql_slice_nil (P := Try.prog) w 22 32 a n c n' c' Try.underlying22
  have hlen := h.1
  cases a with
  | none =>
    have h0 : len = 0 := by
      rcases Nat.eq_zero_or_pos len with h0 | h0
      · exact h0
      · obtain ⟨b, off, hx, _⟩ := h.2.2 0 h0
        cases hx
    subst h0
    have hv : vs = [] := List.eq_nil_of_length_eq_zero hlen
    have HV := hide hv
    clear h hv hlen
    go_enter Try.func8, Try.ntmps8
    go_wp2
    exact HR.out _ _ ⟨_, rfl, by rw [HV.out]; exact World.ownsRow_nil w _ 32 1, World.grownBy.refl _ _⟩
  | some x =>
    have H := hide h
    have HL := hide hlen
    clear h hlen
    go_enter Try.func8, Try.ntmps8
    go_wp2_with (first
      | (at_make; refine wpList_make_full _ rfl _ _ 22 rfl w.heap.size 32 i0 _ 1 Try.underlying22 hi hz0 hz1 _ _ _ _ len rfl rfl rfl rfl (by rw [hz2]; omega) (by unfold maxLen; omega) (Nat.le_refl _) ?_; intro w1 hown1 hgrow1; have O := hide (row_of_owns hown1 rfl); have L := hide hown1.1; clear hown1)
      | (refine wpList_copy_splice rfl (.tmp 9) (.tmp 10) 22 22 rfl 32 Try.underlying22 size32 (some ⟨w.heap.size, 0, none⟩) (some x) len len len cap rfl rfl w.heap.size 0 _ 32 O.out vs (by rw [HL.out]; simp) (copy_src H.out hgrow1) (by have := L.out; have := HL.out; omega) H.out.2.1 w.heap.size w (below_of_grown hgrow1 (Nat.le_refl _)) (Nat.le_refl _) ?_; intro w2 HG2 HB2))
    refine HR.out _ _ ⟨_, rfl, ?_, grown_of_below HB2⟩
    refine owns_of_row ?_ (Nat.le_refl _) HL.out (by unfold maxLen; omega)
    have := HG2.out
    rw [splice_all _ _ (by have := L.out; have := HL.out; omega)] at this
    exact this

theorem info5 : (Try.prog.info? 5).map (fun i => (i.zero, i.size, i.bytes)) = some (some (.int .u8 0), 1, 1) := by kernel_rfl
theorem size5 : (Try.prog.info? 5).map (·.size) = some 1 := by kernel_rfl

set_option maxHeartbeats 400000 in
theorem clone9 (a : Option Addr) (len cap : Nat) (vs : List Value) (w : World) (h : Cells w a len vs) (hm : len ≤ 1048576) :
    Calls Try.prog 9 #[.slice a len cap] w fun e w' => ∃ v, e = .returned v ∧ w'.ownsRow w.heap.size 5 1 v len vs ∧ w.grownBy w' none := by
  refine hidR fun R HR => ?_
  obtain ⟨i0, hi, hz0, hz1, hz2⟩ := info_parts info5
  have heq := fun n c n' c' => Lib.run_eql_slice_nil (P := Try.prog) w 23 5 a n c n' c' Try.underlying23
  have hlen := h.1
  cases a with
  | none =>
    have h0 : len = 0 := by
      rcases Nat.eq_zero_or_pos len with h0 | h0
      · exact h0
      · obtain ⟨b, off, hx, _⟩ := h.2.2 0 h0
        cases hx
    subst h0
    have hv : vs = [] := List.eq_nil_of_length_eq_zero hlen
    have HV := hide hv
    clear h hv hlen
    go_enter Try.func9, Try.ntmps9
    go_wp2
    exact HR.out _ _ ⟨_, rfl, by rw [HV.out]; exact World.ownsRow_nil w _ 5 1, World.grownBy.refl _ _⟩
  | some x =>
    have H := hide h
    have HL := hide hlen
    clear h hlen
    go_enter Try.func9, Try.ntmps9
    go_wp2_with (first
      | (at_make; refine wpList_make_full _ rfl _ _ 23 rfl w.heap.size 5 i0 _ 1 Try.underlying23 hi hz0 hz1 _ _ _ _ len rfl rfl rfl rfl (by rw [hz2]; omega) (by unfold maxLen; omega) (Nat.le_refl _) ?_; intro w1 hown1 hgrow1; have O := hide (row_of_owns hown1 rfl); have L := hide hown1.1; clear hown1)
      | (refine wpList_copy_splice rfl (.tmp 9) (.tmp 10) 23 23 rfl 5 Try.underlying23 size5 (some ⟨w.heap.size, 0, none⟩) (some x) len len len cap rfl rfl w.heap.size 0 _ 5 O.out vs (by rw [HL.out]; simp) (copy_src H.out hgrow1) (by have := L.out; have := HL.out; omega) H.out.2.1 w.heap.size w (below_of_grown hgrow1 (Nat.le_refl _)) (Nat.le_refl _) ?_; intro w2 HG2 HB2))
    refine HR.out _ _ ⟨_, rfl, ?_, grown_of_below HB2⟩
    refine owns_of_row ?_ (Nat.le_refl _) HL.out (by unfold maxLen; omega)
    have := HG2.out
    rw [splice_all _ _ (by have := L.out; have := HL.out; omega)] at this
    exact this

theorem info4 : (Try.prog.info? 4).map (fun i => (i.zero, i.size, i.bytes)) = some (some (.bool false), 1, 1) := by kernel_rfl
theorem size4 : (Try.prog.info? 4).map (·.size) = some 1 := by kernel_rfl

set_option maxHeartbeats 400000 in
theorem clone10 (a : Option Addr) (len cap : Nat) (vs : List Value) (w : World) (h : Cells w a len vs) (hm : len ≤ 1048576) :
    Calls Try.prog 10 #[.slice a len cap] w fun e w' => ∃ v, e = .returned v ∧ w'.ownsRow w.heap.size 4 1 v len vs ∧ w.grownBy w' none := by
  refine hidR fun R HR => ?_
  obtain ⟨i0, hi, hz0, hz1, hz2⟩ := info_parts info4
  have heq := fun n c n' c' => Lib.run_eql_slice_nil (P := Try.prog) w 24 4 a n c n' c' Try.underlying24
  have hlen := h.1
  cases a with
  | none =>
    have h0 : len = 0 := by
      rcases Nat.eq_zero_or_pos len with h0 | h0
      · exact h0
      · obtain ⟨b, off, hx, _⟩ := h.2.2 0 h0
        cases hx
    subst h0
    have hv : vs = [] := List.eq_nil_of_length_eq_zero hlen
    have HV := hide hv
    clear h hv hlen
    go_enter Try.func10, Try.ntmps10
    go_wp2
    exact HR.out _ _ ⟨_, rfl, by rw [HV.out]; exact World.ownsRow_nil w _ 4 1, World.grownBy.refl _ _⟩
  | some x =>
    have H := hide h
    have HL := hide hlen
    clear h hlen
    go_enter Try.func10, Try.ntmps10
    go_wp2_with (first
      | (at_make; refine wpList_make_full _ rfl _ _ 24 rfl w.heap.size 4 i0 _ 1 Try.underlying24 hi hz0 hz1 _ _ _ _ len rfl rfl rfl rfl (by rw [hz2]; omega) (by unfold maxLen; omega) (Nat.le_refl _) ?_; intro w1 hown1 hgrow1; have O := hide (row_of_owns hown1 rfl); have L := hide hown1.1; clear hown1)
      | (refine wpList_copy_splice rfl (.tmp 9) (.tmp 10) 24 24 rfl 4 Try.underlying24 size4 (some ⟨w.heap.size, 0, none⟩) (some x) len len len cap rfl rfl w.heap.size 0 _ 4 O.out vs (by rw [HL.out]; simp) (copy_src H.out hgrow1) (by have := L.out; have := HL.out; omega) H.out.2.1 w.heap.size w (below_of_grown hgrow1 (Nat.le_refl _)) (Nat.le_refl _) ?_; intro w2 HG2 HB2))
    refine HR.out _ _ ⟨_, rfl, ?_, grown_of_below HB2⟩
    refine owns_of_row ?_ (Nat.le_refl _) HL.out (by unfold maxLen; omega)
    have := HG2.out
    rw [splice_all _ _ (by have := L.out; have := HL.out; omega)] at this
    exact this

theorem info21 : (Try.prog.info? 21).map (fun i => (i.zero, i.size, i.bytes)) = some (some (.int .i32 0), 1, 4) := by kernel_rfl
theorem size21 : (Try.prog.info? 21).map (·.size) = some 1 := by kernel_rfl

set_option maxHeartbeats 400000 in
theorem clone11 (a : Option Addr) (len cap : Nat) (vs : List Value) (w : World) (h : Cells w a len vs) (hm : len ≤ 1048576) :
    Calls Try.prog 11 #[.slice a len cap] w fun e w' => ∃ v, e = .returned v ∧ w'.ownsRow w.heap.size 21 1 v len vs ∧ w.grownBy w' none := by
  refine hidR fun R HR => ?_
  obtain ⟨i0, hi, hz0, hz1, hz2⟩ := info_parts info21
  have heq := fun n c n' c' => Lib.run_eql_slice_nil (P := Try.prog) w 25 21 a n c n' c' Try.underlying25
  have hlen := h.1
  cases a with
  | none =>
    have h0 : len = 0 := by
      rcases Nat.eq_zero_or_pos len with h0 | h0
      · exact h0
      · obtain ⟨b, off, hx, _⟩ := h.2.2 0 h0
        cases hx
    subst h0
    have hv : vs = [] := List.eq_nil_of_length_eq_zero hlen
    have HV := hide hv
    clear h hv hlen
    go_enter Try.func11, Try.ntmps11
    go_wp2
    exact HR.out _ _ ⟨_, rfl, by rw [HV.out]; exact World.ownsRow_nil w _ 21 1, World.grownBy.refl _ _⟩
  | some x =>
    have H := hide h
    have HL := hide hlen
    clear h hlen
    go_enter Try.func11, Try.ntmps11
    go_wp2_with (first
      | (at_make; refine wpList_make_full _ rfl _ _ 25 rfl w.heap.size 21 i0 _ 1 Try.underlying25 hi hz0 hz1 _ _ _ _ len rfl rfl rfl rfl (by rw [hz2]; omega) (by unfold maxLen; omega) (Nat.le_refl _) ?_; intro w1 hown1 hgrow1; have O := hide (row_of_owns hown1 rfl); have L := hide hown1.1; clear hown1)
      | (refine wpList_copy_splice rfl (.tmp 9) (.tmp 10) 25 25 rfl 21 Try.underlying25 size21 (some ⟨w.heap.size, 0, none⟩) (some x) len len len cap rfl rfl w.heap.size 0 _ 21 O.out vs (by rw [HL.out]; simp) (copy_src H.out hgrow1) (by have := L.out; have := HL.out; omega) H.out.2.1 w.heap.size w (below_of_grown hgrow1 (Nat.le_refl _)) (Nat.le_refl _) ?_; intro w2 HG2 HB2))
    refine HR.out _ _ ⟨_, rfl, ?_, grown_of_below HB2⟩
    refine owns_of_row ?_ (Nat.le_refl _) HL.out (by unfold maxLen; omega)
    have := HG2.out
    rw [splice_all _ _ (by have := L.out; have := HL.out; omega)] at this
    exact this

theorem info2 : (Try.prog.info? 2).map (fun i => (i.zero, i.size, i.bytes)) = some (some (.int .i64 0), 1, 8) := by kernel_rfl
theorem size2 : (Try.prog.info? 2).map (·.size) = some 1 := by kernel_rfl

set_option maxHeartbeats 400000 in
theorem clone25 (a : Option Addr) (len cap : Nat) (vs : List Value) (w : World) (h : Cells w a len vs) (hm : len ≤ 1048576) :
    Calls Try.prog 25 #[.slice a len cap] w fun e w' => ∃ v, e = .returned v ∧ w'.ownsRow w.heap.size 2 1 v len vs ∧ w.grownBy w' none := by
  refine hidR fun R HR => ?_
  obtain ⟨i0, hi, hz0, hz1, hz2⟩ := info_parts info2
  have heq := fun n c n' c' => Lib.run_eql_slice_nil (P := Try.prog) w 52 2 a n c n' c' Try.underlying52
  have hlen := h.1
  cases a with
  | none =>
    have h0 : len = 0 := by
      rcases Nat.eq_zero_or_pos len with h0 | h0
      · exact h0
      · obtain ⟨b, off, hx, _⟩ := h.2.2 0 h0
        cases hx
    subst h0
    have hv : vs = [] := List.eq_nil_of_length_eq_zero hlen
    have HV := hide hv
    clear h hv hlen
    go_enter Try.func25, Try.ntmps25
    go_wp2
    exact HR.out _ _ ⟨_, rfl, by rw [HV.out]; exact World.ownsRow_nil w _ 2 1, World.grownBy.refl _ _⟩
  | some x =>
    have H := hide h
    have HL := hide hlen
    clear h hlen
    go_enter Try.func25, Try.ntmps25
    go_wp2_with (first
      | (at_make; refine wpList_make_full _ rfl _ _ 52 rfl w.heap.size 2 i0 _ 1 Try.underlying52 hi hz0 hz1 _ _ _ _ len rfl rfl rfl rfl (by rw [hz2]; omega) (by unfold maxLen; omega) (Nat.le_refl _) ?_; intro w1 hown1 hgrow1; have O := hide (row_of_owns hown1 rfl); have L := hide hown1.1; clear hown1)
      | (refine wpList_copy_splice rfl (.tmp 9) (.tmp 10) 52 52 rfl 2 Try.underlying52 size2 (some ⟨w.heap.size, 0, none⟩) (some x) len len len cap rfl rfl w.heap.size 0 _ 2 O.out vs (by rw [HL.out]; simp) (copy_src H.out hgrow1) (by have := L.out; have := HL.out; omega) H.out.2.1 w.heap.size w (below_of_grown hgrow1 (Nat.le_refl _)) (Nat.le_refl _) ?_; intro w2 HG2 HB2))
    refine HR.out _ _ ⟨_, rfl, ?_, grown_of_below HB2⟩
    refine owns_of_row ?_ (Nat.le_refl _) HL.out (by unfold maxLen; omega)
    have := HG2.out
    rw [splice_all _ _ (by have := L.out; have := HL.out; omega)] at this
    exact this

end Go.Proofs.Qxb6600216a
