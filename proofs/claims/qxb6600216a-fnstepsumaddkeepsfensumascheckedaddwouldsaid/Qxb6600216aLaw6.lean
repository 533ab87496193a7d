import Derived.Test.Qxb6600216aSteps
import Derived.Test.Qxb6600216aLay
namespace Go.Proofs.Qxb6600216a
open Go.RowKit

theorem set_sum {w : World} {s : Nat} {st sp ss lo hi fl fh y : Int} (h : SumAt w s st sp ss lo hi fl fh) : SumAt (w.setCell ⟨s, 2, none⟩ (.int .i64 y)) s st sp y lo hi fl fh ∧ w.grownBy (w.setCell ⟨s, 2, none⟩ (.int .i64 y)) (some s) :=
  ⟨by unfold SumAt; rw [heap_setCell_same _ _ _ _ _ _ h]; simp, ⟨rfl, rfl, rfl, by simp, fun k _ hk => heap_setCell_other w ⟨s, 2, none⟩ k _ (fun e => hk (by simp [e]))⟩⟩
theorem set_chk {w : World} {c : Nat} {b : Bool} (h : ChkAt w c b) : ChkAt (w.setCell ⟨c, 0, none⟩ (.bool true)) c true ∧ w.grownBy (w.setCell ⟨c, 0, none⟩ (.bool true)) (some c) :=
  ⟨by unfold ChkAt; rw [heap_setCell_same _ _ _ _ _ _ h]; simp, ⟨rfl, rfl, rfl, by simp, fun k _ hk => heap_setCell_other w ⟨c, 0, none⟩ k _ (fun e => hk (by simp [e]))⟩⟩

theorem set_chk' {w w' : World} {c : Nat} {b : Bool} (h : ChkAt w c b) (he : w.setCell ⟨c, 0, none⟩ (.bool true) = w') : ChkAt w' c true ∧ w.grownBy w' (some c) := by
  subst he
  exact set_chk h

theorem new_chk (b : Bool) (w : World) : Calls Try.prog 27 #[.bool b] w fun e w' => e = .returned (.pointer (some ⟨w.heap.size, 0, none⟩)) ∧ ChkAt w' w.heap.size b ∧ w.grownBy w' none ∧ w'.heap.size = w.heap.size + 1 :=
  (make27 b w).mono (by rintro e w' ⟨rfl, rfl⟩; exact ⟨rfl, heap_alloc_new w _, World.grownBy_alloc w _ none, by simp⟩)
theorem new_sum (x0 x1 x2 x3 x4 x5 x6 : Int) (w : World) : Calls Try.prog 26 #[.int .i64 x0, .int .i64 x1, .int .i64 x2, .int .i64 x3, .int .i64 x4, .int .i64 x5, .int .i64 x6] w fun e w' => e = .returned (.pointer (some ⟨w.heap.size, 0, none⟩)) ∧ SumAt w' w.heap.size x0 x1 x2 x3 x4 x5 x6 ∧ w.grownBy w' none ∧ w'.heap.size = w.heap.size + 1 :=
  (make26 x0 x1 x2 x3 x4 x5 x6 w).mono (by rintro e w' ⟨rfl, rfl⟩; exact ⟨rfl, heap_alloc_new w _, World.grownBy_alloc w _ none, by simp⟩)

/-- What holds at the head of every round. -/
structure Sm (w wr : World) (S C : Nat) (vx : Value) (n : Nat) (zs : List Int) (st sp ss lo hi fl fh : Int) (b : Bool) : Prop where
  sum : SumAt wr S st sp ss lo hi fl fh
  chk : ChkAt wr C b
  xs : wr.ownsRow w.heap.size 2 1 vx n (zs.map (Value.int .i64))
  low : w.heap.size ≤ S ∧ w.heap.size ≤ C
  below : Below w.heap.size w wr

theorem row_ne_block {w : World} {base e size n d t : Nat} {v : Value} {xs : List Value} {cs : Array Value} (h : w.ownsRow base e size v n xs) (hd : w.heap[d]? = some (.cells cs t (0, 0))) (hne : t ≠ e) : v.ownBlock ≠ some d := by
  intro e'
  rcases h.2 with ⟨rfl, _⟩ | ⟨g, cap, cur, rfl, _, hg, _⟩
  · simp [Value.ownBlock] at e'
  · simp [Value.ownBlock] at e'
    subst e'
    rw [hd] at hg
    simp at hg
    exact hne hg.2

section
variable {w wr w' : World} {S C : Nat} {vx : Value} {n : Nat} {zs : List Int} {st sp ss lo hi fl fh y : Int} {b : Bool}

theorem Sm.ne (h : Sm w wr S C vx n zs st sp ss lo hi fl fh b) : S ≠ C := by
  rintro rfl
  have h1 := h.sum
  have h2 := h.chk
  unfold SumAt at h1
  unfold ChkAt at h2
  rw [h1] at h2
  simp at h2

theorem Sm.lt (h : Sm w wr S C vx n zs st sp ss lo hi fl fh b) : S < wr.heap.size ∧ C < wr.heap.size := ⟨(Array.getElem?_eq_some_iff.1 h.sum).1, (Array.getElem?_eq_some_iff.1 h.chk).1⟩

theorem Sm.take (h : Sm w wr S C vx n zs st sp ss lo hi fl fh b) (hs : SumAt w' S st sp y lo hi fl fh) (hg : wr.grownBy w' (some S)) : Sm w w' S C vx n zs st sp y lo hi fl fh b :=
  ⟨hs, (hg.block C h.lt.2 (by simpa using fun e => h.ne e.symm)).trans h.chk, h.xs.kept hg (.inr (row_ne_block h.xs h.sum (by decide))), h.low, h.below.grown hg h.below.size (fun k hk => by cases hk; exact h.low.1)⟩

theorem Sm.deny (h : Sm w wr S C vx n zs st sp ss lo hi fl fh b) (hc : ChkAt w' C true) (hg : wr.grownBy w' (some C)) : Sm w w' S C vx n zs st sp ss lo hi fl fh true :=
  ⟨(hg.block S h.lt.1 (by simpa using h.ne)).trans h.sum, hc, h.xs.kept hg (.inr (row_ne_block h.xs h.chk (by decide))), h.low, h.below.grown hg h.below.size (fun k hk => by cases hk; exact h.low.2)⟩

theorem Sm.deny' (h : Sm w wr S C vx n zs st sp ss lo hi fl fh b) (he : wr.setCell ⟨C, 0, none⟩ (.bool true) = w') : Sm w w' S C vx n zs st sp ss lo hi fl fh true := by
  subst he
  exact h.deny (set_chk h.chk).1 (set_chk h.chk).2
theorem Sm.take' (h : Sm w wr S C vx n zs st sp ss lo hi fl fh b) (he : wr.setCell ⟨S, 2, none⟩ (.int .i64 y) = w') : Sm w w' S C vx n zs st sp y lo hi fl fh b := by
  subst he
  exact h.take (set_sum h.sum).1 (set_sum h.sum).2

theorem Sm.more (h : Sm w wr S C vx n zs st sp ss lo hi fl fh b) (hg : wr.grownBy w' none) : Sm w w' S C vx n zs st sp ss lo hi fl fh b :=
  ⟨(hg.block S h.lt.1 (by simp)).trans h.sum, (hg.block C h.lt.2 (by simp)).trans h.chk, owns_keep h.xs hg, h.low, h.below.grown hg h.below.size (by simp)⟩

theorem Sm.other {P : Nat} {p : Bool} (h : Sm w wr S C vx n zs st sp ss lo hi fl fh b) (hp : ChkAt wr P p) (hne : C ≠ P) (hlow : w.heap.size ≤ P) (hg : wr.grownBy w' (some P)) : Sm w w' S C vx n zs st sp ss lo hi fl fh b := by
  have hsp : S ≠ P := by
    rintro rfl
    have h1 := h.sum
    unfold SumAt at h1
    unfold ChkAt at hp
    rw [h1] at hp
    simp at hp
  exact ⟨(hg.block S h.lt.1 (by simpa using hsp)).trans h.sum, (hg.block C h.lt.2 (by simpa using hne)).trans h.chk, h.xs.kept hg (.inr (row_ne_block h.xs hp (by decide))), h.low, h.below.grown hg h.below.size (fun k hk => by cases hk; exact hlow)⟩
end

set_option maxRecDepth 100000 in
set_option maxHeartbeats 2000000 in
theorem law6 (x0 x1 x2 : Int) (x3 : Bool) (a : Option Addr) (len cap : Nat) (zs : List Int) (w : World) (w0 : Fits x0) (w1 : Fits x1) (w2 : Fits x2) (h : Ints .i64 w a len zs)
    (hm : len ≤ 9223372036854775807) (hz : ∀ j, Fits (zs.getD j 0)) :
    Calls Try.prog 6 #[.int .i64 x0, .int .i64 x1, .int .i64 x2, .bool x3, .slice a len cap] w fun e w' => e = .returned (.bool true) ∧ Below w.heap.size w w' := by
  refine hidR fun R HR => ?_
  have H := hide h
  have HZ := hide hz
  have W0 := hide w0
  have W2 := hide w2
  clear h hz
  obtain ⟨f01, f02⟩ := w0
  obtain ⟨f11, f12⟩ := w1
  obtain ⟨f21, f22⟩ := w2
  by_cases p0 : len ≤ 65536
  · by_cases p1 : x1 < 100
    · go_enter Try.func6, Try.ntmps6
      go_wp2_with (first
        | (go_at_call 24; refine (bytes24 _ _ _ _ _ _ _ _).mono ?_; rintro e w' ⟨b6, rfl, rfl⟩; cases b6))
      all_goals exact HR.out _ _ ⟨rfl, Below.refl _ _⟩
    · go_enter Try.func6, Try.ntmps6
      go_upto_region 14 with (first
        | (go_at_call 24; refine (bytes24 _ _ _ _ _ _ _ _).mono ?_; rintro e w' ⟨b6, rfl, rfl⟩; cases b6))
      · exact HR.out _ _ ⟨rfl, Below.refl _ _⟩
      · have p2 : 100 ≤ x1 := by omega
        have BB := hide (bounds_of W0.out p2)
        rw [hi_eq W0.out p2, lo_eq W0.out p2, fl_eq p2]
        generalize (9223372036854775807 - x0) / x1 = hi at *
        generalize -((x0 + 9223372036854775808) / x1) = lo at *
        generalize -(9223372036854775808 / x1) = fl at *
        generalize 9223372036854775807 / x1 = fh at *
        by_cases q1 : x2 < lo
        · go_wp2
          exact HR.out _ _ ⟨rfl, Below.refl _ _⟩
        · by_cases q2 : hi < x2
          · go_wp2
            exact HR.out _ _ ⟨rfl, Below.refl _ _⟩
          · go_wp2_with (first
              | (go_at_call 25; refine (clone25 _ _ _ _ _ (unhide H) (by omega)).mono ?_; rintro e v1 ⟨vx, rfl, hx, gx⟩; obtain ⟨ao, cx, rfl⟩ := owns_form hx)
              | (go_at_call 26; refine (new_sum _ _ _ _ _ _ _ _).mono ?_; rintro e v2 ⟨rfl, hs2, g2, z2⟩)
              | (go_at_call 27; refine (new_chk _ _).mono ?_; rintro e v3 ⟨rfl, hc3, g3, z3⟩))
            have hT : Hid (wrap64 (x0 + wrap64 (x2 * x1)) = x0 + x2 * x1) := tot_eq ((BB.out.steps x2).2 ⟨by omega, by omega⟩)
            generalize wrap64 (x0 + wrap64 (x2 * x1)) = T at *
            have SM : Hid (Sm w v3 v1.heap.size (v1.heap.size + 1) (.slice ao len cx) len zs x0 x1 x2 lo hi fl fh x3) :=
              ⟨(g3.block _ (by omega) (by simp)).trans hs2, by rw [z2] at hc3; exact hc3, owns_keep (owns_keep hx g2) g3, ⟨gx.size, by have := gx.size; omega⟩, ((below_of_grown gx (Nat.le_refl _)).trans (below_of_grown g2 gx.size)).trans (below_of_grown g3 (by have := gx.size; omega))⟩
            clear hx gx hs2 g2 z2 hc3 g3 z3
            obtain ⟨S, hS⟩ : ∃ S, S = v1.heap.size := ⟨_, rfl⟩
            obtain ⟨C, hC⟩ : ∃ C, C = v1.heap.size + 1 := ⟨_, rfl⟩
            rw [← hC, ← hS] at SM
            rw [← hC, ← hS]
            clear hC hS
            go_loopw [20, 21, 22] (fun vt vf vi wr => ∃ (k : Nat) (t ss : Int) (b : Bool), k ≤ len ∧ vi = .int .i64 k ∧ vt = .int .i64 t ∧ vf = .bool b ∧ t = x0 + ss * x1 ∧ (lo ≤ ss ∧ ss ≤ hi) ∧ Sm w wr S C (.slice ao len cx) len zs x0 x1 ss lo hi fl fh b) (fun _ _ vi _ => len - (intOf vi).toNat)
            case atStart => exact ⟨0, _, x2, x3, Nat.zero_le _, rfl, rfl, rfl, hT.out, ⟨by omega, by omega⟩, SM.out⟩
            case round =>
              clear SM hT
              obtain ⟨k, t, ss, b, hk, rfl, rfl, rfl, ht, ⟨hss1, hss2⟩, sm⟩ := hrel
              have SM := hide sm
              have HT := hide ht
              clear sm ht
              have htt : (wrap64 (x0 + wrap64 (ss * x1)) != t) = false := by rw [tot_eq ((BB.out.steps ss).2 ⟨hss1, hss2⟩), ← HT.out]; simp
              have bb1 := BB.out.b1
              have bb2 := BB.out.b2
              have bb3 := BB.out.b3
              have bb4 := BB.out.b4
              by_cases hlt : k < len
              · obtain ⟨gx, rfl, ccx⟩ := owns_at SM.out.xs hlt
                have hxf := HZ.out k
                obtain ⟨x, hx⟩ : ∃ x, x = zs.getD k 0 := ⟨_, rfl⟩
                rw [← hx] at ccx hxf
                clear hx
                have HXF := hide hxf
                obtain ⟨xf1, xf2⟩ := hxf
                by_cases hfen : Fits (x * x1)
                · have HF := hide hfen
                  obtain ⟨e1, e2⟩ := fen_yes p2 hfen
                  have hbn : (wrap64 ((x * x1).tdiv x1) != x) = false := by rw [tdiv_fits p2 HF.out, e2]; simp
                  have hbn2 : ((x * x1).tdiv x1 != x) = false := by rw [e2]; simp
                  clear e2
                  obtain ⟨fen1, fen2⟩ := hfen
                  have htf : Fits t := by rw [HT.out]; exact (BB.out.steps ss).2 ⟨hss1, hss2⟩
                  have HTF := hide htf
                  clear htf
                  have hsum := hide (show t + x * x1 = x0 + (ss + x) * x1 from by have := HT.out; rw [this, Int.add_mul]; omega)
                  have hfig := (BB.out.figs x).1 HF.out
                  by_cases hin : lo ≤ ss + x ∧ ss + x ≤ hi
                  · obtain ⟨i1, i2⟩ := hin
                    have C28 := hide (add28_yes S C x0 x1 ss lo hi fl fh x b wr SM.out.sum SM.out.chk (by omega) (by omega) (by omega) (by omega) ⟨hfig.1, hfig.2, i1, i2⟩)
                    have hff : Fits (t + x * x1) := by rw [hsum.out]; exact (BB.out.steps _).2 ⟨i1, i2⟩
                    have HFF := hide hff
                    have htt2 : (wrap64 (x0 + wrap64 ((ss + x) * x1)) != t + x * x1) = false := by rw [tot_eq ((BB.out.steps _).2 ⟨i1, i2⟩), ← hsum.out]; simp
                    clear hff htt e1
                    go_wp2_with (first
                      | (go_at_call 28; refine (unhide C28).mono ?_; rintro e w5 ⟨rfl, hw5⟩; have SM5 := hide (SM.out.take' hw5); clear hw5)
                      | (go_at_call 27; refine (new_chk _ _).mono ?_; rintro e w6 ⟨rfl, hp6, g6, z6⟩; have SM6 := hide (SM5.out.more g6); have HP6 := hide hp6; clear hp6 g6 z6)
                      | (go_at_call 29; refine (chk29_no _ _ _ _ _ HP6.out HTF.out HF.out HFF.out).mono ?_; rintro e w' ⟨rfl, rfl⟩)
                      | (go_at_call_of 30 (some (⟨C, 0, none⟩ : Addr)); refine (over30 C b _ SM6.out.chk).mono ?_; rintro e w' ⟨rfl, rfl⟩)
                      | (go_at_call 30; refine (over30 _ false _ HP6.out).mono ?_; rintro e w' ⟨rfl, rfl⟩)
                      | (go_at_call 31; refine (steps31 _ _ _ _ _ _ _ _ _ SM6.out.sum).mono ?_; rintro e w' ⟨rfl, rfl⟩))
                    go_roundw
                    case rel => exact ⟨k + 1, _, ss + x, b, by omega, by go_num, rfl, rfl, hsum.out, ⟨i1, i2⟩, SM6.out⟩
                    case measure => simp [intOf]; omega
                  · have hnt : ¬ Taken ss lo hi fl fh x := fun h => hin h.2.2
                    have C28 := hide (add28_no S C x0 x1 ss lo hi fl fh x b wr SM.out.sum SM.out.chk (by omega) (by omega) (by omega) (by omega) hnt)
                    have hff : ¬ Fits (t + x * x1) := by rw [hsum.out]; exact fun h => hin ((BB.out.steps _).1 h)
                    have HFF := hide hff
                    clear hff e1 hin hnt
                    go_wp2_with (first
                      | (go_at_call 28; refine (unhide C28).mono ?_; rintro e w5 ⟨rfl, hw5⟩; have SM5 := hide (SM.out.deny' hw5); clear hw5)
                      | (go_at_call 27; refine (new_chk _ _).mono ?_; rintro e w6 ⟨rfl, hp6, g6, z6⟩; have SM6 := hide (SM5.out.more g6); have HP6 := hide hp6; have HNE := hide (show C ≠ w5.heap.size from by have := SM5.out.lt.2; omega); have HLW := hide (SM5.out.below.size); clear hp6 g6 z6)
                      | (go_at_call 29; refine (chk29_yes _ _ _ _ _ HP6.out HTF.out HF.out HFF.out).mono ?_; rintro e w7 ⟨rfl, hw7⟩; have HP7 := hide (set_chk' HP6.out hw7); have SM7 := hide (SM6.out.other HP6.out HNE.out HLW.out HP7.out.2); clear hw7)
                      | (go_at_call_of 30 (some (⟨C, 0, none⟩ : Addr)); refine (over30 C true _ SM7.out.chk).mono ?_; rintro e w' ⟨rfl, rfl⟩)
                      | (go_at_call 30; refine (over30 _ true _ HP7.out.1).mono ?_; rintro e w' ⟨rfl, rfl⟩)
                      | (go_at_call 31; refine (steps31 _ _ _ _ _ _ _ _ _ SM7.out.sum).mono ?_; rintro e w' ⟨rfl, rfl⟩))
                    go_roundw
                    case rel => exact ⟨k + 1, _, ss, true, by omega, by go_num, rfl, rfl, HT.out, ⟨hss1, hss2⟩, SM7.out⟩
                    case measure => simp [intOf]; omega
                · have hnt : ¬ Taken ss lo hi fl fh x := fun h => hfen ((BB.out.figs x).2 ⟨h.1, h.2.1⟩)
                  have hne := fen_no p2 f12 hfen
                  have C28 := hide (add28_no S C x0 x1 ss lo hi fl fh x b wr SM.out.sum SM.out.chk (by omega) (by omega) (by omega) (by omega) hnt)
                  have C31 := hide (fun w' h => steps31 S x0 x1 ss lo hi fl fh w' h)
                  have hbn : (wrap64 ((wrap64 (x * x1)).tdiv x1) != x) = true := by rw [tdiv_fits p2 (wrap64_bd _)]; simpa using hne
                  clear hne hnt hfen
                  go_wp2_with (first
                    | (go_at_call 28; refine (unhide C28).mono ?_; rintro e w5 ⟨rfl, hw5⟩; have SM5 := hide (SM.out.deny' hw5); clear hw5)
                    | (go_at_call 30; refine (over30 C true _ SM5.out.chk).mono ?_; rintro e w' ⟨rfl, rfl⟩)
                    | (go_at_call 31; refine (steps31 _ _ _ _ _ _ _ _ _ SM5.out.sum).mono ?_; rintro e w' ⟨rfl, rfl⟩))
                  go_roundw
                  case rel => exact ⟨k + 1, _, ss, true, by omega, by go_num, rfl, rfl, HT.out, ⟨hss1, hss2⟩, SM5.out⟩
                  case measure => simp [intOf]; omega
              · go_wp2
                exact HR.out _ _ ⟨rfl, SM.out.below⟩
  · go_enter Try.func6, Try.ntmps6
    go_wp2_with (first
      | (go_at_call 24; refine (bytes24 _ _ _ _ _ _ _ _).mono ?_; rintro e w' ⟨b6, rfl, rfl⟩; cases b6))
    all_goals exact HR.out _ _ ⟨rfl, Below.refl _ _⟩
end Go.Proofs.Qxb6600216a
