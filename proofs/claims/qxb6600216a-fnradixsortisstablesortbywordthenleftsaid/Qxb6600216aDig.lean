import Derived.Test.Qxb6600216aOrd
import Derived.Deep.OwnRows
import Derived.Deep.RegionHeld3
import Derived.Deep.CutRange
import Derived.Handy
namespace Go.Proofs.Qxb6600216a
open Go.RowKit
set_option linter.unusedVariables false

def key (W L : Nat) : Nat := W * 256 + L

set_option maxHeartbeats 1000000 in
theorem digit36 (W L : Nat) (b : Bool) (p : Int) (d : Nat) (w : World) (hW : W < 18446744073709551616) (hL : L < 256) (hd : d < 9) :
    Calls Try.prog 36 #[.agg #[.int .u64 (W : Int), .int .u8 (L : Int), .bool b, .int .i32 p], .int .i64 (d : Int)] w fun e w' => e = .returned (.int .u8 ((key W L / 256 ^ d % 256 : Nat) : Int)) ∧ w.grownBy w' none := by
  refine hidR fun R HR => ?_
  rcases (show d = 0 ∨ d = 1 ∨ d = 2 ∨ d = 3 ∨ d = 4 ∨ d = 5 ∨ d = 6 ∨ d = 7 ∨ d = 8 by omega) with rfl | rfl | rfl | rfl | rfl | rfl | rfl | rfl | rfl
  · go_enter Try.func36, Try.ntmps36
    go_wp2
    refine HR.out _ _ ⟨?_, World.grownBy_alloc w _ none⟩
    unfold key
    rw [show (W * 256 + L) / 256 ^ 0 % 256 = L by omega]
    rfl
  · go_enter Try.func36, Try.ntmps36
    go_wp2
    refine HR.out _ _ ⟨?_, World.grownBy_alloc w _ none⟩
    refine congrArg (fun z => Ending.returned (.int .u8 z)) (show ((W : Int) % 256 : Int) = _ from ?_)
    unfold key
    omega
  · go_enter Try.func36, Try.ntmps36
    go_wp2
    refine HR.out _ _ ⟨?_, World.grownBy_alloc w _ none⟩
    refine congrArg (fun z => Ending.returned (.int .u8 z)) (show ((W : Int) / 256 % 256 : Int) = _ from ?_)
    unfold key
    omega
  · go_enter Try.func36, Try.ntmps36
    go_wp2
    refine HR.out _ _ ⟨?_, World.grownBy_alloc w _ none⟩
    refine congrArg (fun z => Ending.returned (.int .u8 z)) (show ((W : Int) / 65536 % 256 : Int) = _ from ?_)
    unfold key
    omega
  · go_enter Try.func36, Try.ntmps36
    go_wp2
    refine HR.out _ _ ⟨?_, World.grownBy_alloc w _ none⟩
    refine congrArg (fun z => Ending.returned (.int .u8 z)) (show ((W : Int) / 16777216 % 256 : Int) = _ from ?_)
    unfold key
    omega
  · go_enter Try.func36, Try.ntmps36
    go_wp2
    refine HR.out _ _ ⟨?_, World.grownBy_alloc w _ none⟩
    refine congrArg (fun z => Ending.returned (.int .u8 z)) (show ((W : Int) / 4294967296 % 256 : Int) = _ from ?_)
    unfold key
    omega
  · go_enter Try.func36, Try.ntmps36
    go_wp2
    refine HR.out _ _ ⟨?_, World.grownBy_alloc w _ none⟩
    refine congrArg (fun z => Ending.returned (.int .u8 z)) (show ((W : Int) / 1099511627776 % 256 : Int) = _ from ?_)
    unfold key
    omega
  · go_enter Try.func36, Try.ntmps36
    go_wp2
    refine HR.out _ _ ⟨?_, World.grownBy_alloc w _ none⟩
    refine congrArg (fun z => Ending.returned (.int .u8 z)) (show ((W : Int) / 281474976710656 % 256 : Int) = _ from ?_)
    unfold key
    omega
  · go_enter Try.func36, Try.ntmps36
    go_wp2
    refine HR.out _ _ ⟨?_, World.grownBy_alloc w _ none⟩
    refine congrArg (fun z => Ending.returned (.int .u8 z)) (show ((W : Int) / 72057594037927936 : Int) = _ from ?_)
    unfold key
    omega

theorem make12 (x y p : Int) (b : Bool) (w : World) :
    Calls Try.prog 12 #[.int .u64 x, .int .u8 y, .bool b, .int .i32 p] w fun e w' => e = .returned (.agg #[.int .u64 x, .int .u8 y, .bool b, .int .i32 p]) ∧ w.grownBy w' none := by
  refine hidR fun R HR => ?_
  go_enter Try.func12, Try.ntmps12
  go_wp2
  refine bodyPost_ret (v := .agg #[.int .u64 x, .int .u8 y, .bool b, .int .i32 p]) (by simp [results, Try.results12, go_sem]) rfl ?_
  exact HR.out _ _ ⟨rfl, World.grownBy_alloc w _ none⟩

theorem parts19 (x y p : Int) (b : Bool) (w : World) :
    Calls Try.prog 19 #[.agg #[.int .u64 x, .int .u8 y, .bool b, .int .i32 p]] w fun e w' => e = .returned (.tuple #[.int .u64 x, .int .u8 y, .bool b, .int .i32 p]) ∧ w.grownBy w' none := by
  refine hidR fun R HR => ?_
  go_enter Try.func19, Try.ntmps19
  go_wp2
  go_quiet (fail)
  go_wp2
  refine bodyPost_ret (v := .tuple #[.int .u64 x, .int .u8 y, .bool b, .int .i32 p]) (by simp [results, Try.results19, go_sem]) rfl ?_
  have hg := World.grownBy_alloc w (.cells #[.int .u64 x, .int .u8 y, .bool b, .int .i32 p] 34) none
  exact HR.out _ _ ⟨rfl, ⟨hg.os, hg.tape, hg.output, hg.size, hg.block⟩⟩

/-- A row of the call's own, its cells by the index: the slice may be nil where it is empty. -/
def Sl (w : World) (v : Value) (n : Nat) (f : Nat → Value) : Prop :=
  (v = .slice none 0 0 ∧ n = 0) ∨ ∃ g cap, v = .slice (some ⟨g, 0, none⟩) n cap ∧ ∀ i, i < n → w.cell? ⟨g, i, none⟩ = some (f i)

theorem sl_of {w : World} {b e n : Nat} {v : Value} {α : Type} {c : α → Value} {z : α} {zs : List α} (h : w.ownsRow b e 1 v n (zs.map c)) : Sl w v n (fun i => c (zs.getD i z)) := by
  have hl : zs.length = n := by simpa using h.1
  rcases h.2 with ⟨e1, h0⟩ | ⟨g, cap, cur, rfl, r⟩
  · exact .inl ⟨e1, h0⟩
  · refine .inr ⟨g, cap, rfl, fun i hi => ?_⟩
    rw [h.cellAt i (by omega)]
    simp [List.getD, show i < zs.length by omega]

theorem sl_cast {w : World} {v : Value} {n : Nat} {f : Nat → Value} (h : Sl w v n f) (h0 : 0 < n) : ∃ g cap, v = .slice (some ⟨g, 0, none⟩) n cap ∧ ∀ i, i < n → w.cell? ⟨g, i, none⟩ = some (f i) := by
  rcases h with ⟨_, e⟩ | h
  · omega
  · exact h

theorem Sl.kept {w w1 : World} {v : Value} {n : Nat} {f : Nat → Value} (h : Sl w v n f) (hg : w.grownBy w1 none) : Sl w1 v n f := by
  rcases h with h | ⟨g, cap, rfl, hc⟩
  · exact .inl h
  · exact .inr ⟨g, cap, rfl, fun i hi => hg.cell (hc i hi) (by simp)⟩

def dpv (D : Nat → Bool) (n i : Nat) : Bool := if i < n then D i else false
def plv (P : Nat → Int) (n i : Nat) : Int := if i < n then P i else i

theorem deep13 (v : Value) (n : Nat) (D : Nat → Bool) (i : Nat) (w : World) (h : Sl w v n (fun i => .bool (D i))) (hn : n ≤ 1048576) (hi : i ≤ 1048576) :
    Calls Try.prog 13 #[v, .int .i64 (i : Int)] w fun e w' => e = .returned (.bool (dpv D n i)) ∧ w = w' := by
  refine hidR fun R HR => ?_
  unfold dpv at HR
  rcases h with ⟨rfl, rfl⟩ | ⟨g, cap, rfl, hc⟩
  · go_enter Try.func13, Try.ntmps13
    go_wp2
    exact HR.out _ _ ⟨by simp, rfl⟩
  · by_cases hlt : i < n
    · have hci := hc i hlt
      clear hc
      go_enter Try.func13, Try.ntmps13
      go_wp2
      exact HR.out _ _ ⟨by rw [if_pos hlt], rfl⟩
    · clear hc
      go_enter Try.func13, Try.ntmps13
      go_wp2
      exact HR.out _ _ ⟨by rw [if_neg hlt]; rfl, rfl⟩

theorem place14 (v : Value) (n : Nat) (P : Nat → Int) (i : Nat) (w : World) (h : Sl w v n (fun i => .int .i32 (P i))) (hn : n ≤ 1048576) (hi : i ≤ 1048576) :
    Calls Try.prog 14 #[v, .int .i64 (i : Int)] w fun e w' => e = .returned (.int .i32 (plv P n i)) ∧ w = w' := by
  refine hidR fun R HR => ?_
  unfold plv at HR
  have hwr : IntKind.i32.wrap (i : Int) = (i : Int) := by rw [IntKind.wrap_i32]; omega
  rcases h with ⟨rfl, rfl⟩ | ⟨g, cap, rfl, hc⟩
  · go_enter Try.func14, Try.ntmps14
    go_wp2
    exact HR.out _ _ ⟨by simp, rfl⟩
  · by_cases hlt : i < n
    · have hci := hc i hlt
      clear hc
      go_enter Try.func14, Try.ntmps14
      go_wp2
      exact HR.out _ _ ⟨by rw [if_pos hlt], rfl⟩
    · clear hc
      go_enter Try.func14, Try.ntmps14
      go_wp2
      exact HR.out _ _ ⟨by rw [if_neg hlt]; rfl, rfl⟩

theorem word15 (v : Value) (n : Nat) (P : Nat → Int) (i : Nat) (w : World) (h : Sl w v n (fun i => .int .u64 (P i))) (hn : n ≤ 1048576) (hi : i ≤ 1048576) :
    Calls Try.prog 15 #[v, .int .i64 (i : Int)] w fun e w' => ∃ x, e = .returned (.int .u64 x) ∧ w = w' := by
  refine hidR fun R HR => ?_
  rcases h with ⟨rfl, rfl⟩ | ⟨g, cap, rfl, hc⟩
  · go_enter Try.func15, Try.ntmps15
    go_wp2
    exact HR.out _ _ ⟨_, rfl, rfl⟩
  · by_cases hlt : i < n
    · have hci := hc i hlt
      clear hc
      go_enter Try.func15, Try.ntmps15
      go_wp2
      exact HR.out _ _ ⟨_, rfl, rfl⟩
    · clear hc
      go_enter Try.func15, Try.ntmps15
      go_wp2
      exact HR.out _ _ ⟨_, rfl, rfl⟩

theorem left16 (v : Value) (n : Nat) (P : Nat → Int) (i : Nat) (w : World) (h : Sl w v n (fun i => .int .u8 (P i))) (hn : n ≤ 1048576) (hi : i ≤ 1048576) :
    Calls Try.prog 16 #[v, .int .i64 (i : Int)] w fun e w' => ∃ x, e = .returned (.int .u8 x) ∧ w = w' := by
  refine hidR fun R HR => ?_
  rcases h with ⟨rfl, rfl⟩ | ⟨g, cap, rfl, hc⟩
  · go_enter Try.func16, Try.ntmps16
    go_wp2
    exact HR.out _ _ ⟨_, rfl, rfl⟩
  · by_cases hlt : i < n
    · have hci := hc i hlt
      clear hc
      go_enter Try.func16, Try.ntmps16
      go_wp2
      exact HR.out _ _ ⟨_, rfl, rfl⟩
    · clear hc
      go_enter Try.func16, Try.ntmps16
      go_wp2
      exact HR.out _ _ ⟨_, rfl, rfl⟩

theorem less17 (g0 c0 n0 g1 c1 n1 : Nat) (W L : Nat → Nat) (a b : Nat) (w : World) (h0 : ∀ i, i < n0 → w.cell? ⟨g0, i, none⟩ = some (.int .u64 (W i : Nat))) (h1 : ∀ i, i < n1 → w.cell? ⟨g1, i, none⟩ = some (.int .u8 (L i : Nat)))
    (ha0 : a < n0) (ha1 : a < n1) (hb0 : b < n0) (hb1 : b < n1) (hm0 : n0 ≤ 1048576) (hm1 : n1 ≤ 1048576) (hLa : L a < 256) (hLb : L b < 256) :
    Calls Try.prog 17 #[.slice (some ⟨g0, 0, none⟩) n0 c0, .slice (some ⟨g1, 0, none⟩) n1 c1, .int .i64 (a : Int), .int .i64 (b : Int)] w fun e w' => e = .returned (.bool (decide (key (W a) (L a) < key (W b) (L b)))) ∧ ∃ nq, w.drewN nq = w' := by
  refine hidR fun R HR => ?_
  have q0 := h0 a ha0
  have q1 := h0 b hb0
  have q2 := h1 a ha1
  have q3 := h1 b hb1
  clear h0 h1
  unfold key at HR
  generalize W a = x at *
  generalize W b = y at *
  generalize L a = s at *
  generalize L b = t at *
  go_enter Try.func17, Try.ntmps17
  by_cases he : x = y
  · subst he
    have e1 : ((x : Int) != (x : Int)) = false := by simp
    go_wp2
    go_quiet (fail)
    go_wp2
    go_quiet (fail)
    go_wp2
    refine HR.out _ _ ⟨?_, ?_⟩
    · by_cases hst : s < t
      · rw [decide_eq_true (show x * 256 + s < x * 256 + t by omega)]
        simp [hst]
      · rw [decide_eq_false (show ¬ x * 256 + s < x * 256 + t by omega)]
        simp [hst]
    · first | exact ⟨_, rfl⟩ | (simp only [World.drewN_drewN]; exact ⟨_, rfl⟩)
  · have e1 : ((x : Int) != (y : Int)) = true := by simp; omega
    go_wp2
    go_quiet (fail)
    go_wp2
    go_quiet (fail)
    go_wp2
    refine HR.out _ _ ⟨?_, ?_⟩
    · by_cases hst : x < y
      · rw [decide_eq_true (show x * 256 + s < y * 256 + t by omega)]
        simp [hst]
      · rw [decide_eq_false (show ¬ x * 256 + s < y * 256 + t by omega)]
        simp [hst]
    · first | exact ⟨_, rfl⟩ | (simp only [World.drewN_drewN]; exact ⟨_, rfl⟩)
end Go.Proofs.Qxb6600216a
