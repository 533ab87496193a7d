import Derived.Test.Qxb6600216aNums
import Derived.Handy
namespace Go.Proofs.Qxb6600216a
open Go.RowKit

set_option maxHeartbeats 400000 in
theorem bytes24 (x0 x1 x2 : Int) (x3 : Bool) (a : Option Addr) (l c : Nat) (w : World) :
    Calls Try.prog 24 #[.int .i64 x0, .int .i64 x1, .int .i64 x2, .bool x3, .slice a l c] w fun e w' => ∃ b, e = .returned (.bool b) ∧ w = w' := by
  refine hidR fun R HR => ?_
  go_enter Try.func24, Try.ntmps24
  go_wp2
  all_goals exact HR.out _ _ ⟨_, rfl, rfl⟩

/-- A stepSum in block s. -/
def SumAt (w : World) (s : Nat) (st sp ss lo hi fl fh : Int) : Prop :=
  w.heap[s]? = some (.cells #[.int .i64 st, .int .i64 sp, .int .i64 ss, .int .i64 lo, .int .i64 hi, .int .i64 fl, .int .i64 fh] 64 (0, 0))
/-- A checked in block c. -/
def ChkAt (w : World) (c : Nat) (b : Bool) : Prop := w.heap[c]? = some (.cells #[.bool b] 66 (0, 0))

theorem SumAt.cells {w : World} {s : Nat} {st sp ss lo hi fl fh : Int} (h : SumAt w s st sp ss lo hi fl fh) :
    w.cell? ⟨s, 2, none⟩ = some (.int .i64 ss) ∧ w.cell? ⟨s, 3, none⟩ = some (.int .i64 lo) ∧ w.cell? ⟨s, 4, none⟩ = some (.int .i64 hi) ∧ w.cell? ⟨s, 5, none⟩ = some (.int .i64 fl) ∧ w.cell? ⟨s, 6, none⟩ = some (.int .i64 fh) ∧ w.frozen? ⟨s, 2, none⟩ = false := by
  have c2 := cell_of_row w s 2 _ _ _ h
  have c3 := cell_of_row w s 3 _ _ _ h
  have c4 := cell_of_row w s 4 _ _ _ h
  have c5 := cell_of_row w s 5 _ _ _ h
  have c6 := cell_of_row w s 6 _ _ _ h
  simp at c2 c3 c4 c5 c6
  exact ⟨c2, c3, c4, c5, c6, frozen_of_row w s 2 _ _ h⟩

theorem ChkAt.cells {w : World} {c : Nat} {b : Bool} (h : ChkAt w c b) : w.cell? ⟨c, 0, none⟩ = some (.bool b) ∧ w.frozen? ⟨c, 0, none⟩ = false := by
  have c0 := cell_of_row w c 0 _ _ _ h
  simp at c0
  exact ⟨c0, frozen_of_row w c 0 _ _ h⟩

set_option maxHeartbeats 400000 in
theorem make26 (x0 x1 x2 x3 x4 x5 x6 : Int) (w : World) :
    Calls Try.prog 26 #[.int .i64 x0, .int .i64 x1, .int .i64 x2, .int .i64 x3, .int .i64 x4, .int .i64 x5, .int .i64 x6] w fun e w' => e = .returned (.pointer (some ⟨w.heap.size, 0, none⟩)) ∧ w.alloc (.cells #[.int .i64 x0, .int .i64 x1, .int .i64 x2, .int .i64 x3, .int .i64 x4, .int .i64 x5, .int .i64 x6] 64) = w' := by
  refine hidR fun R HR => ?_
  go_enter Try.func26, Try.ntmps26
  go_wp2
  exact HR.out _ _ ⟨rfl, rfl⟩

set_option maxHeartbeats 400000 in
theorem make27 (b : Bool) (w : World) :
    Calls Try.prog 27 #[.bool b] w fun e w' => e = .returned (.pointer (some ⟨w.heap.size, 0, none⟩)) ∧ w.alloc (.cells #[.bool b] 66) = w' := by
  refine hidR fun R HR => ?_
  go_enter Try.func27, Try.ntmps27
  go_wp2
  exact HR.out _ _ ⟨rfl, rfl⟩

set_option maxHeartbeats 400000 in
theorem over30 (c : Nat) (b : Bool) (w : World) (h : ChkAt w c b) :
    Calls Try.prog 30 #[.pointer (some ⟨c, 0, none⟩)] w fun e w' => e = .returned (.bool b) ∧ w = w' := by
  refine hidR fun R HR => ?_
  obtain ⟨c0, f0⟩ := h.cells
  clear h
  go_enter Try.func30, Try.ntmps30
  go_wp2
  exact HR.out _ _ ⟨rfl, rfl⟩

set_option maxHeartbeats 400000 in
theorem steps31 (s : Nat) (st sp ss lo hi fl fh : Int) (w : World) (h : SumAt w s st sp ss lo hi fl fh) :
    Calls Try.prog 31 #[.pointer (some ⟨s, 0, none⟩)] w fun e w' => e = .returned (.int .i64 ss) ∧ w = w' := by
  refine hidR fun R HR => ?_
  obtain ⟨c2, c3, c4, c5, c6, f2⟩ := h.cells
  clear h
  go_enter Try.func31, Try.ntmps31
  go_wp2
  exact HR.out _ _ ⟨rfl, rfl⟩

/-- Is the figure taken? -/
def Taken (ss lo hi fl fh x : Int) : Prop := fl ≤ x ∧ x ≤ fh ∧ lo ≤ ss + x ∧ ss + x ≤ hi

set_option maxHeartbeats 400000 in
theorem add34_yes (s c : Nat) (st sp ss lo hi fl fh x : Int) (b : Bool) (w : World) (h : SumAt w s st sp ss lo hi fl fh) (hc : ChkAt w c b)
    (b1 : -200000000000000000 ≤ ss) (b2 : ss ≤ 200000000000000000) (b3 : -200000000000000000 ≤ fl) (b4 : fh ≤ 200000000000000000) (ht : Taken ss lo hi fl fh x) :
    Calls Try.prog 34 #[.pointer (some ⟨s, 0, none⟩), .int .i64 x, .pointer (some ⟨c, 0, none⟩)] w fun e w' => e = .returned (.tuple #[]) ∧ w.setCell ⟨s, 2, none⟩ (.int .i64 (ss + x)) = w' := by
  refine hidR fun R HR => ?_
  obtain ⟨c2, c3, c4, c5, c6, f2⟩ := h.cells
  obtain ⟨c0, f0⟩ := hc.cells
  obtain ⟨t1, t2, t3, t4⟩ := ht
  clear h hc
  go_enter Try.func34, Try.ntmps34
  go_wp2
  go_returns
  exact HR.out _ _ ⟨rfl, rfl⟩

set_option maxHeartbeats 400000 in
theorem add34_no (s c : Nat) (st sp ss lo hi fl fh x : Int) (b : Bool) (w : World) (h : SumAt w s st sp ss lo hi fl fh) (hc : ChkAt w c b)
    (b1 : -200000000000000000 ≤ ss) (b2 : ss ≤ 200000000000000000) (b3 : -200000000000000000 ≤ fl) (b4 : fh ≤ 200000000000000000) (ht : ¬ Taken ss lo hi fl fh x) :
    Calls Try.prog 34 #[.pointer (some ⟨s, 0, none⟩), .int .i64 x, .pointer (some ⟨c, 0, none⟩)] w fun e w' => e = .returned (.tuple #[]) ∧ w.setCell ⟨c, 0, none⟩ (.bool true) = w' := by
  refine hidR fun R HR => ?_
  obtain ⟨c2, c3, c4, c5, c6, f2⟩ := h.cells
  obtain ⟨c0, f0⟩ := hc.cells
  clear h hc
  unfold Taken at ht
  by_cases t1 : x < fl
  · clear ht
    go_enter Try.func34, Try.ntmps34
    go_wp2
    go_returns
    exact HR.out _ _ ⟨rfl, rfl⟩
  · by_cases t2 : fh < x
    · clear ht
      go_enter Try.func34, Try.ntmps34
      go_wp2
      go_returns
      exact HR.out _ _ ⟨rfl, rfl⟩
    · by_cases t3 : ss + x < lo
      · clear ht
        go_enter Try.func34, Try.ntmps34
        go_wp2
        go_returns
        exact HR.out _ _ ⟨rfl, rfl⟩
      · have t4 : hi < ss + x := by omega
        clear ht
        go_enter Try.func34, Try.ntmps34
        go_wp2
        go_returns
        exact HR.out _ _ ⟨rfl, rfl⟩

set_option maxHeartbeats 400000 in
theorem add28_yes (s c : Nat) (st sp ss lo hi fl fh x : Int) (b : Bool) (w : World) (h : SumAt w s st sp ss lo hi fl fh) (hc : ChkAt w c b)
    (b1 : -200000000000000000 ≤ ss) (b2 : ss ≤ 200000000000000000) (b3 : -200000000000000000 ≤ fl) (b4 : fh ≤ 200000000000000000) (ht : Taken ss lo hi fl fh x) :
    Calls Try.prog 28 #[.pointer (some ⟨s, 0, none⟩), .int .i64 x, .pointer (some ⟨c, 0, none⟩)] w fun e w' => e = .returned (.tuple #[]) ∧ w.setCell ⟨s, 2, none⟩ (.int .i64 (ss + x)) = w' := by
  refine hidR fun R HR => ?_
  have C := hide (add34_yes s c st sp ss lo hi fl fh x b w h hc b1 b2 b3 b4 ht)
  clear h hc ht
  go_enter Try.func28, Try.ntmps28
  go_wp2_with (go_at_call 34; refine (unhide C).mono ?_; rintro e w' ⟨rfl, rfl⟩)
  go_returns
  exact HR.out _ _ ⟨rfl, rfl⟩

set_option maxHeartbeats 400000 in
theorem add28_no (s c : Nat) (st sp ss lo hi fl fh x : Int) (b : Bool) (w : World) (h : SumAt w s st sp ss lo hi fl fh) (hc : ChkAt w c b)
    (b1 : -200000000000000000 ≤ ss) (b2 : ss ≤ 200000000000000000) (b3 : -200000000000000000 ≤ fl) (b4 : fh ≤ 200000000000000000) (ht : ¬ Taken ss lo hi fl fh x) :
    Calls Try.prog 28 #[.pointer (some ⟨s, 0, none⟩), .int .i64 x, .pointer (some ⟨c, 0, none⟩)] w fun e w' => e = .returned (.tuple #[]) ∧ w.setCell ⟨c, 0, none⟩ (.bool true) = w' := by
  refine hidR fun R HR => ?_
  have C := hide (add34_no s c st sp ss lo hi fl fh x b w h hc b1 b2 b3 b4 ht)
  clear h hc ht
  go_enter Try.func28, Try.ntmps28
  go_wp2_with (go_at_call 34; refine (unhide C).mono ?_; rintro e w' ⟨rfl, rfl⟩)
  go_returns
  exact HR.out _ _ ⟨rfl, rfl⟩

set_option maxHeartbeats 400000 in
theorem chk35_no (c : Nat) (b : Bool) (x y : Int) (w : World) (hc : ChkAt w c b) (hx : Fits x) (hy : Fits y) (hf : Fits (x + y)) :
    Calls Try.prog 35 #[.pointer (some ⟨c, 0, none⟩), .int .i64 x, .int .i64 y] w fun e w' => e = .returned (.int .i64 (x + y)) ∧ w = w' := by
  refine hidR fun R HR => ?_
  obtain ⟨c0, f0⟩ := hc.cells
  have ho := Int.not_lt.1 ((not_congr (over_sum hx hy)).2 (not_not_intro hf))
  obtain ⟨f1, f2⟩ := hf
  rw [show wrap64 (x + y) = x + y by unfold wrap64; omega] at ho
  clear hc hx hy
  go_enter Try.func35, Try.ntmps35
  go_wp2
  exact HR.out _ _ ⟨rfl, rfl⟩

set_option maxHeartbeats 400000 in
theorem chk35_yes (c : Nat) (b : Bool) (x y : Int) (w : World) (hc : ChkAt w c b) (hx : Fits x) (hy : Fits y) (hf : ¬ Fits (x + y)) :
    Calls Try.prog 35 #[.pointer (some ⟨c, 0, none⟩), .int .i64 x, .int .i64 y] w fun e w' => e = .returned (.int .i64 (wrap64 (x + y))) ∧ w.setCell ⟨c, 0, none⟩ (.bool true) = w' := by
  refine hidR fun R HR => ?_
  obtain ⟨c0, f0⟩ := hc.cells
  have ho := (over_sum hx hy).2 hf
  clear hc hx hy hf
  go_enter Try.func35, Try.ntmps35
  go_wp2
  exact HR.out _ _ ⟨rfl, rfl⟩

set_option maxHeartbeats 400000 in
theorem chk29_no (c : Nat) (b : Bool) (x y : Int) (w : World) (hc : ChkAt w c b) (hx : Fits x) (hy : Fits y) (hf : Fits (x + y)) :
    Calls Try.prog 29 #[.pointer (some ⟨c, 0, none⟩), .int .i64 x, .int .i64 y] w fun e w' => e = .returned (.int .i64 (x + y)) ∧ w = w' := by
  refine hidR fun R HR => ?_
  have C := hide (chk35_no c b x y w hc hx hy hf)
  clear hc hx hy hf
  go_enter Try.func29, Try.ntmps29
  go_wp2_with (go_at_call 35; refine (unhide C).mono ?_; rintro e w' ⟨rfl, rfl⟩)
  exact HR.out _ _ ⟨rfl, rfl⟩

set_option maxHeartbeats 400000 in
theorem chk29_yes (c : Nat) (b : Bool) (x y : Int) (w : World) (hc : ChkAt w c b) (hx : Fits x) (hy : Fits y) (hf : ¬ Fits (x + y)) :
    Calls Try.prog 29 #[.pointer (some ⟨c, 0, none⟩), .int .i64 x, .int .i64 y] w fun e w' => e = .returned (.int .i64 (wrap64 (x + y))) ∧ w.setCell ⟨c, 0, none⟩ (.bool true) = w' := by
  refine hidR fun R HR => ?_
  have C := hide (chk35_yes c b x y w hc hx hy hf)
  clear hc hx hy hf
  go_enter Try.func29, Try.ntmps29
  go_wp2_with (go_at_call 35; refine (unhide C).mono ?_; rintro e w' ⟨rfl, rfl⟩)
  exact HR.out _ _ ⟨rfl, rfl⟩

end Go.Proofs.Qxb6600216a
