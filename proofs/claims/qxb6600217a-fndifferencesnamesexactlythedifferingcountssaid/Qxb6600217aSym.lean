import Derived.Test.Qxb6600217aDiff
namespace Go.Proofs.Qxb6600217a
open Go.RowKit

theorem owns_low {w : World} {b b' e size n : Nat} {v : Value} {xs : List Value} (h : w.ownsRow b e size v n xs) (hb : b' ≤ b) : w.ownsRow b' e size v n xs := by
  refine ⟨h.1, ?_⟩
  rcases h.2 with hn | ⟨g, cap, cur, rfl, hg, r⟩
  · exact .inl hn
  · exact .inr ⟨g, cap, cur, rfl, Nat.le_trans hb hg, r⟩
theorem owns_keep {w w1 : World} {b e size n : Nat} {v : Value} {xs : List Value} (h : w.ownsRow b e size v n xs) (hg : w.grownBy w1 none) : w1.ownsRow b e size v n xs := h.kept hg (by cases v.ownBlock <;> simp)

set_option maxHeartbeats 400000 in
theorem diff13 (T U : Nat → Int) (w : World) :
    Calls Try.prog 13 #[.int .i64 (T 0), .agg #[.int .i64 (T 1), .int .i64 (T 2), .int .i64 (T 3), .int .i64 (T 4), .int .i64 (T 5), .int .i64 (T 6)], .int .i64 (U 0), .agg #[.int .i64 (U 1), .int .i64 (U 2), .int .i64 (U 3), .int .i64 (U 4), .int .i64 (U 5), .int .i64 (U 6)]] w fun e w' =>
      ∃ g cap, e = .returned (.slice (some ⟨g, 0, none⟩) (df T U 7).length cap) ∧ w'.ownsRow w.heap.size 9 1 (.slice (some ⟨g, 0, none⟩) (df T U 7).length cap) (df T U 7).length ((df T U 7).map Value.string) ∧ w.grownBy w' none := by
  refine hidR fun R HR => ?_
  go_enter Try.func13, Try.ntmps13
  go_wp2_with (go_at_call 19; refine (diff19 T U _).mono ?_; rintro e w5 ⟨g, cap, rfl, h1, h2⟩)
  exact HR.out _ _ ⟨g, cap, rfl, owns_low h1 (by simp; omega), ((World.grownBy_alloc w _ none).trans (World.grownBy_alloc _ _ none)).trans h2⟩

theorem df_comm (T U : Nat → Int) : ∀ k, df U T k = df T U k
  | 0 => rfl
  | k + 1 => by
    unfold df
    rw [df_comm T U k]
    by_cases h : T k = U k
    · rw [if_pos h, if_pos h.symm]
    · rw [if_neg h, if_neg (fun e => h e.symm)]
theorem df_self (T : Nat → Int) : ∀ k, df T T k = []
  | 0 => rfl
  | k + 1 => by unfold df; rw [df_self T k]; simp
theorem df_nil (T U : Nat → Int) : ∀ k, df T U k = [] ↔ ∀ j, j < k → T j = U j
  | 0 => by simp [df]
  | k + 1 => by
    unfold df
    by_cases h : T k = U k
    · rw [if_pos h, df_nil T U k]
      constructor
      · intro hh j hj
        by_cases e : j = k
        · rw [e]; exact h
        · exact hh j (by omega)
      · intro hh j hj; exact hh j (by omega)
    · rw [if_neg h]
      constructor
      · intro hh; simp at hh
      · intro hh; exact absurd (hh k (by omega)) h

def Two (w' : World) (B : Nat) (T U : Nat → Int) : Prop := w'.cell? ⟨B, 0, none⟩ = some (.int .i64 (T 0)) ∧ w'.cell? ⟨B, 1, none⟩ = some (.int .i64 (T 1)) ∧ w'.cell? ⟨B, 2, none⟩ = some (.int .i64 (T 2)) ∧ w'.cell? ⟨B, 3, none⟩ = some (.int .i64 (T 3)) ∧ w'.cell? ⟨B, 4, none⟩ = some (.int .i64 (T 4)) ∧ w'.cell? ⟨B, 5, none⟩ = some (.int .i64 (T 5)) ∧ w'.cell? ⟨B, 6, none⟩ = some (.int .i64 (T 6)) ∧ w'.cell? ⟨B + 1, 0, none⟩ = some (.int .i64 (U 0)) ∧ w'.cell? ⟨B + 1, 1, none⟩ = some (.int .i64 (U 1)) ∧ w'.cell? ⟨B + 1, 2, none⟩ = some (.int .i64 (U 2)) ∧ w'.cell? ⟨B + 1, 3, none⟩ = some (.int .i64 (U 3)) ∧ w'.cell? ⟨B + 1, 4, none⟩ = some (.int .i64 (U 4)) ∧ w'.cell? ⟨B + 1, 5, none⟩ = some (.int .i64 (U 5)) ∧ w'.cell? ⟨B + 1, 6, none⟩ = some (.int .i64 (U 6))

theorem Two.kept {w w1 : World} {B : Nat} {T U : Nat → Int} (hg : w.grownBy w1 none) (h : Two w B T U) : Two w1 B T U := by
  obtain ⟨h0, h1, h2, h3, h4, h5, h6, h7, h8, h9, h10, h11, h12, h13⟩ := h
  exact ⟨hg.cell h0 (by simp), hg.cell h1 (by simp), hg.cell h2 (by simp), hg.cell h3 (by simp), hg.cell h4 (by simp), hg.cell h5 (by simp), hg.cell h6 (by simp), hg.cell h7 (by simp), hg.cell h8 (by simp), hg.cell h9 (by simp), hg.cell h10 (by simp), hg.cell h11 (by simp), hg.cell h12 (by simp), hg.cell h13 (by simp)⟩

theorem two_new (T U : Nat → Int) (w : World) : Two ((w.alloc (.cells #[.int .i64 (T 0), .int .i64 (T 1), .int .i64 (T 2), .int .i64 (T 3), .int .i64 (T 4), .int .i64 (T 5), .int .i64 (T 6)] 47)).alloc (.cells #[.int .i64 (U 0), .int .i64 (U 1), .int .i64 (U 2), .int .i64 (U 3), .int .i64 (U 4), .int .i64 (U 5), .int .i64 (U 6)] 47)) w.heap.size T U := by
  have h1 : ((w.alloc (.cells #[.int .i64 (T 0), .int .i64 (T 1), .int .i64 (T 2), .int .i64 (T 3), .int .i64 (T 4), .int .i64 (T 5), .int .i64 (T 6)] 47)).alloc (.cells #[.int .i64 (U 0), .int .i64 (U 1), .int .i64 (U 2), .int .i64 (U 3), .int .i64 (U 4), .int .i64 (U 5), .int .i64 (U 6)] 47)).heap[w.heap.size]? = some (.cells #[.int .i64 (T 0), .int .i64 (T 1), .int .i64 (T 2), .int .i64 (T 3), .int .i64 (T 4), .int .i64 (T 5), .int .i64 (T 6)] 47 (0, 0)) := by
    rw [Go.heap_alloc_old _ _ (by simp)]; exact heap_alloc_new w _
  have h2 : ((w.alloc (.cells #[.int .i64 (T 0), .int .i64 (T 1), .int .i64 (T 2), .int .i64 (T 3), .int .i64 (T 4), .int .i64 (T 5), .int .i64 (T 6)] 47)).alloc (.cells #[.int .i64 (U 0), .int .i64 (U 1), .int .i64 (U 2), .int .i64 (U 3), .int .i64 (U 4), .int .i64 (U 5), .int .i64 (U 6)] 47)).heap[w.heap.size + 1]? = some (.cells #[.int .i64 (U 0), .int .i64 (U 1), .int .i64 (U 2), .int .i64 (U 3), .int .i64 (U 4), .int .i64 (U 5), .int .i64 (U 6)] 47 (0, 0)) := by
    have := heap_alloc_new (w.alloc (.cells #[.int .i64 (T 0), .int .i64 (T 1), .int .i64 (T 2), .int .i64 (T 3), .int .i64 (T 4), .int .i64 (T 5), .int .i64 (T 6)] 47)) (.cells #[.int .i64 (U 0), .int .i64 (U 1), .int .i64 (U 2), .int .i64 (U 3), .int .i64 (U 4), .int .i64 (U 5), .int .i64 (U 6)] 47)
    simpa using this
  unfold Two
  refine ⟨?_, ?_, ?_, ?_, ?_, ?_, ?_, ?_, ?_, ?_, ?_, ?_, ?_, ?_⟩
  · rw [cell_of_row _ _ _ _ _ _ h1]; rfl
  · rw [cell_of_row _ _ _ _ _ _ h1]; rfl
  · rw [cell_of_row _ _ _ _ _ _ h1]; rfl
  · rw [cell_of_row _ _ _ _ _ _ h1]; rfl
  · rw [cell_of_row _ _ _ _ _ _ h1]; rfl
  · rw [cell_of_row _ _ _ _ _ _ h1]; rfl
  · rw [cell_of_row _ _ _ _ _ _ h1]; rfl
  · rw [cell_of_row _ _ _ _ _ _ h2]; rfl
  · rw [cell_of_row _ _ _ _ _ _ h2]; rfl
  · rw [cell_of_row _ _ _ _ _ _ h2]; rfl
  · rw [cell_of_row _ _ _ _ _ _ h2]; rfl
  · rw [cell_of_row _ _ _ _ _ _ h2]; rfl
  · rw [cell_of_row _ _ _ _ _ _ h2]; rfl
  · rw [cell_of_row _ _ _ _ _ _ h2]; rfl

theorem str_at {w : World} {base n k g cap : Nat} {ss : List ByteArray} (h : w.ownsRow base 9 1 (.slice (some ⟨g, 0, none⟩) n cap) n (ss.map Value.string)) (hk : k < n) : w.cell? ⟨g, k, none⟩ = some (.string (ss.getD k ByteArray.empty)) := by
  have hl : ss.length = n := by simpa using h.1
  rw [h.cellAt k (by omega)]
  simp [List.getD, show k < ss.length by omega]

theorem sym_below {w v : World} {n : Nat} (h : w.grownBy v none) : Below w.heap.size w (v.drewN n) := by
  have := below_of_grown h (Nat.le_refl _)
  exact ⟨this.os, this.tape, this.output, this.size, this.block⟩
theorem all7 {T U : Nat → Int} (q0 : T 0 = U 0) (q1 : T 1 = U 1) (q2 : T 2 = U 2) (q3 : T 3 = U 3) (q4 : T 4 = U 4) (q5 : T 5 = U 5) (q6 : T 6 = U 6) : ∀ j, j < 7 → T j = U j := by
  intro j hj
  rcases (show j = 0 ∨ j = 1 ∨ j = 2 ∨ j = 3 ∨ j = 4 ∨ j = 5 ∨ j = 6 by omega) with rfl | rfl | rfl | rfl | rfl | rfl | rfl <;> assumption

theorem drew_grown {w v : World} (h : w.grownBy v none) : w.grownBy v.drew none := ⟨h.os, h.tape, h.output, h.size, h.block⟩
theorem grown_then {w a b : World} (h : a.grownBy b none) (k : w.grownBy a none) : w.grownBy b none := k.trans h
theorem low_of {w a b : World} {e size n : Nat} {v : Value} {xs : List Value} (h : b.ownsRow a.heap.size e size v n xs) (k : w.grownBy a none) : b.ownsRow w.heap.size e size v n xs := owns_low h k.size

set_option maxRecDepth 100000 in
set_option maxHeartbeats 2000000 in
theorem law6 (T U : Nat → Int) (w : World) :
    Calls Try.prog 6 #[.agg #[.int .i64 (T 0), .int .i64 (T 1), .int .i64 (T 2), .int .i64 (T 3), .int .i64 (T 4), .int .i64 (T 5), .int .i64 (T 6)], .agg #[.int .i64 (U 0), .int .i64 (U 1), .int .i64 (U 2), .int .i64 (U 3), .int .i64 (U 4), .int .i64 (U 5), .int .i64 (U 6)]] w fun e w' => e = .returned (.bool true) ∧ Below w.heap.size w w' := by
  refine hidR fun R HR => ?_
  have T0 := hide (two_new T U w)
  have G0 := hide ((World.grownBy_alloc w (.cells #[.int .i64 (T 0), .int .i64 (T 1), .int .i64 (T 2), .int .i64 (T 3), .int .i64 (T 4), .int .i64 (T 5), .int .i64 (T 6)] 47) none).trans (World.grownBy_alloc _ (.cells #[.int .i64 (U 0), .int .i64 (U 1), .int .i64 (U 2), .int .i64 (U 3), .int .i64 (U 4), .int .i64 (U 5), .int .i64 (U 6)] 47) none))
  go_enter Try.func6, Try.ntmps6
  go_upto_region 1 with fail
  obtain ⟨B, hB⟩ : ∃ B, B = w.heap.size := ⟨_, rfl⟩
  generalize ((w.alloc (.cells #[.int .i64 (T 0), .int .i64 (T 1), .int .i64 (T 2), .int .i64 (T 3), .int .i64 (T 4), .int .i64 (T 5), .int .i64 (T 6)] 47)).alloc (.cells #[.int .i64 (U 0), .int .i64 (U 1), .int .i64 (U 2), .int .i64 (U 3), .int .i64 (U 4), .int .i64 (U 5), .int .i64 (U 6)] 47)) = v1 at *
  rw [← hB] at T0
  rw [← hB]
  have HB := hide hB
  clear hB
  go_cut [5] from 9 (fun v wx => ∃ g cap, v = .slice (some ⟨g, 0, none⟩) (df T U 7).length cap ∧ wx.ownsRow B 9 1 (.slice (some ⟨g, 0, none⟩) (df T U 7).length cap) (df T U 7).length ((df T U 7).map Value.string) ∧ Two wx B T U ∧ w.grownBy wx none)
  case first =>
    have T1 := unhide T0
    have G1 : w.grownBy v1.drew none := drew_grown G0.out
    unfold Two at T1
    go_region_held3 (fun w' => w'.cell? ⟨B, 0, none⟩ = some (.int .i64 (T 0)) ∧ w'.cell? ⟨B, 1, none⟩ = some (.int .i64 (T 1)) ∧ w'.cell? ⟨B, 2, none⟩ = some (.int .i64 (T 2)) ∧ w'.cell? ⟨B, 3, none⟩ = some (.int .i64 (T 3)) ∧ w'.cell? ⟨B, 4, none⟩ = some (.int .i64 (T 4)) ∧ w'.cell? ⟨B, 5, none⟩ = some (.int .i64 (T 5)) ∧ w'.cell? ⟨B, 6, none⟩ = some (.int .i64 (T 6)) ∧ w'.cell? ⟨B + 1, 0, none⟩ = some (.int .i64 (U 0)) ∧ w'.cell? ⟨B + 1, 1, none⟩ = some (.int .i64 (U 1)) ∧ w'.cell? ⟨B + 1, 2, none⟩ = some (.int .i64 (U 2)) ∧ w'.cell? ⟨B + 1, 3, none⟩ = some (.int .i64 (U 3)) ∧ w'.cell? ⟨B + 1, 4, none⟩ = some (.int .i64 (U 4)) ∧ w'.cell? ⟨B + 1, 5, none⟩ = some (.int .i64 (U 5)) ∧ w'.cell? ⟨B + 1, 6, none⟩ = some (.int .i64 (U 6))) (first | (go_keep; done) | assumption)
      (first
        | (go_at_call 14; refine (amounts14 _ _ _ _ _ _ _ _).mono ?_; rintro e w5 ⟨rfl, g5⟩; have hS5 := Two.kept (B := B) (T := T) (U := U) g5 (by assumption); have hG5 := grown_then (w := w) g5 (by assumption))
        | (go_at_call 13; refine (diff13 T U _).mono ?_; rintro e w6 ⟨g, cap, rfl, h1, g6⟩; have hS6 := Two.kept (B := B) (T := T) (U := U) g6 (by assumption); have hG6 := grown_then (w := w) g6 (by assumption); have hB6 := low_of (w := w) h1 (by assumption)))
    have S6 := hide hS6
    have G6 := hide hG6
    have B6 := hide hB6
    clear hS6 hG6 hB6 h1 g6 T1
    go_wp2
    go_meet
    case rel => exact ⟨g, cap, rfl, by rw [HB.out]; exact B6.out, S6.out, G6.out⟩
  case rest =>
    obtain ⟨g1, cap1, rfl, r1, t1, gr1⟩ := hcut
    clear T0 G0 v1
    have R1 := hide r1
    have T0 := hide t1
    have G0 := hide gr1
    clear r1 t1 gr1
    go_upto_region 2 with fail
    go_cut [6] from 9 (fun v wx => wx.ownsRow B 9 1 (.slice (some ⟨g1, 0, none⟩) (df T U 7).length cap1) (df T U 7).length ((df T U 7).map Value.string) ∧ ∃ g cap, v = .slice (some ⟨g, 0, none⟩) (df U T 7).length cap ∧ wx.ownsRow B 9 1 (.slice (some ⟨g, 0, none⟩) (df U T 7).length cap) (df U T 7).length ((df U T 7).map Value.string) ∧ Two wx B T U ∧ w.grownBy wx none)
    case first =>
      have T1 := unhide T0
      have G1 : w.grownBy wc.drew none := drew_grown G0.out
      have GW : wc.grownBy wc.drew none := drew_grown (World.grownBy.refl _ _)
      unfold Two at T1
      go_region_held3 (fun w' => w'.cell? ⟨B, 0, none⟩ = some (.int .i64 (T 0)) ∧ w'.cell? ⟨B, 1, none⟩ = some (.int .i64 (T 1)) ∧ w'.cell? ⟨B, 2, none⟩ = some (.int .i64 (T 2)) ∧ w'.cell? ⟨B, 3, none⟩ = some (.int .i64 (T 3)) ∧ w'.cell? ⟨B, 4, none⟩ = some (.int .i64 (T 4)) ∧ w'.cell? ⟨B, 5, none⟩ = some (.int .i64 (T 5)) ∧ w'.cell? ⟨B, 6, none⟩ = some (.int .i64 (T 6)) ∧ w'.cell? ⟨B + 1, 0, none⟩ = some (.int .i64 (U 0)) ∧ w'.cell? ⟨B + 1, 1, none⟩ = some (.int .i64 (U 1)) ∧ w'.cell? ⟨B + 1, 2, none⟩ = some (.int .i64 (U 2)) ∧ w'.cell? ⟨B + 1, 3, none⟩ = some (.int .i64 (U 3)) ∧ w'.cell? ⟨B + 1, 4, none⟩ = some (.int .i64 (U 4)) ∧ w'.cell? ⟨B + 1, 5, none⟩ = some (.int .i64 (U 5)) ∧ w'.cell? ⟨B + 1, 6, none⟩ = some (.int .i64 (U 6))) (first | (go_keep; done) | assumption)
        (first
          | (go_at_call 14; refine (amounts14 _ _ _ _ _ _ _ _).mono ?_; rintro e w5 ⟨rfl, g5⟩; have hS5 := Two.kept (B := B) (T := T) (U := U) g5 (by assumption); have hG5 := grown_then (w := w) g5 (by assumption); have hW5 := grown_then (w := wc) g5 (by assumption))
          | (go_at_call 13; refine (diff13 U T _).mono ?_; rintro e w6 ⟨g, cap, rfl, h1, g6⟩; have hS6 := Two.kept (B := B) (T := T) (U := U) g6 (by assumption); have hG6 := grown_then (w := w) g6 (by assumption); have hB6 := low_of (w := w) h1 (by assumption); have hW6 := grown_then (w := wc) g6 (by assumption)))
      have S6 := hide hS6
      have G6 := hide hG6
      have B6 := hide hB6
      have KEEP := hide hW6
      clear hW6
      clear hS6 hG6 hB6 h1 g6 T1
      go_wp2
      go_meet
      case rel => exact ⟨owns_keep R1.out KEEP.out, g, cap, rfl, by rw [HB.out]; exact B6.out, S6.out, G6.out⟩
    case rest =>
      obtain ⟨r1, g2, cap2, rfl, r2, t1, gr1⟩ := hcut
      clear T0 G0 R1
      have R1 := hide r1
      have R2 := hide r2
      have T0 := hide t1
      have G0 := hide gr1
      clear r1 r2 t1 gr1
      rw [df_comm T U 7] at R2
      rw [df_comm T U 7]
      go_upto_region 3 with fail
      go_cut [7] from 9 (fun v wx => wx.ownsRow B 9 1 (.slice (some ⟨g1, 0, none⟩) (df T U 7).length cap1) (df T U 7).length ((df T U 7).map Value.string) ∧ wx.ownsRow B 9 1 (.slice (some ⟨g2, 0, none⟩) (df T U 7).length cap2) (df T U 7).length ((df T U 7).map Value.string) ∧ ∃ g cap, v = .slice (some ⟨g, 0, none⟩) 0 cap ∧ Two wx B T U ∧ w.grownBy wx none)
      case first =>
        have T1 := unhide T0
        have G1 : w.grownBy wc.drew none := drew_grown G0.out
        have GW : wc.grownBy wc.drew none := drew_grown (World.grownBy.refl _ _)
        unfold Two at T1
        go_region_held3 (fun w' => w'.cell? ⟨B, 0, none⟩ = some (.int .i64 (T 0)) ∧ w'.cell? ⟨B, 1, none⟩ = some (.int .i64 (T 1)) ∧ w'.cell? ⟨B, 2, none⟩ = some (.int .i64 (T 2)) ∧ w'.cell? ⟨B, 3, none⟩ = some (.int .i64 (T 3)) ∧ w'.cell? ⟨B, 4, none⟩ = some (.int .i64 (T 4)) ∧ w'.cell? ⟨B, 5, none⟩ = some (.int .i64 (T 5)) ∧ w'.cell? ⟨B, 6, none⟩ = some (.int .i64 (T 6)) ∧ w'.cell? ⟨B + 1, 0, none⟩ = some (.int .i64 (U 0)) ∧ w'.cell? ⟨B + 1, 1, none⟩ = some (.int .i64 (U 1)) ∧ w'.cell? ⟨B + 1, 2, none⟩ = some (.int .i64 (U 2)) ∧ w'.cell? ⟨B + 1, 3, none⟩ = some (.int .i64 (U 3)) ∧ w'.cell? ⟨B + 1, 4, none⟩ = some (.int .i64 (U 4)) ∧ w'.cell? ⟨B + 1, 5, none⟩ = some (.int .i64 (U 5)) ∧ w'.cell? ⟨B + 1, 6, none⟩ = some (.int .i64 (U 6))) (first | (go_keep; done) | assumption)
          (first
            | (go_at_call 14; refine (amounts14 _ _ _ _ _ _ _ _).mono ?_; rintro e w5 ⟨rfl, g5⟩; have hS5 := Two.kept (B := B) (T := T) (U := U) g5 (by assumption); have hG5 := grown_then (w := w) g5 (by assumption); have hW5 := grown_then (w := wc) g5 (by assumption))
            | (go_at_call 13; refine (diff13 T T _).mono ?_; rintro e w6 ⟨g, cap, rfl, h1, g6⟩; have hS6 := Two.kept (B := B) (T := T) (U := U) g6 (by assumption); have hG6 := grown_then (w := w) g6 (by assumption); have hW6 := grown_then (w := wc) g6 (by assumption)))
        have S6 := hide hS6
        have G6 := hide hG6
        have KEEP := hide hW6
        clear hS6 hG6 hW6 h1 g6 T1
        go_wp2
        go_meet
        case rel => exact ⟨owns_keep R1.out KEEP.out, owns_keep R2.out KEEP.out, g, cap, by rw [df_self]; rfl, S6.out, G6.out⟩
      case rest =>
        obtain ⟨r1, r2, g3, cap3, rfl, t1, gr1⟩ := hcut
        clear T0 G0 R1 R2
        have R1 := hide r1
        have R2 := hide r2
        have T0 := hide t1
        have G0 := hide gr1
        have hfl := df_len T U 7
        have HNIL := hide (df_nil T U 7)
        obtain ⟨L, hL⟩ : ∃ L, L = df T U 7 := ⟨_, rfl⟩
        rw [← hL] at R1 R2 HNIL hfl
        rw [← hL]
        clear r1 r2 t1 gr1 hL
        have heq := fun w a n c n' c' => Lib.run_eql_slice_nil (P := Try.prog) w 48 9 a n c n' c' Try.underlying48
        go_wp2
        clear heq
        go_loopw [8] (fun j wj => ∃ (m nq : Nat), j = .int .i64 m ∧ m ≤ L.length ∧ wc.drewN nq = wj) (fun j _ => L.length - (intOf j).toNat)
        case atStart => exact ⟨0, 0, rfl, Nat.zero_le _, rfl⟩
        case round =>
          obtain ⟨m, nq, rfl, hmp, rfl⟩ := hrel
          by_cases hme : m < L.length
          · have hc1 := str_at R1.out hme
            have hc2 := str_at R2.out hme
            obtain ⟨t, ht⟩ : ∃ t, t = L.getD m ByteArray.empty := ⟨_, rfl⟩
            rw [← ht] at hc1 hc2
            clear ht
            go_wp2
            go_quiet (fail)
            go_wp2
            go_roundw
            case rel => exact ⟨m + 1, _, by go_num, by omega, rfl⟩
            case measure => simp [intOf]; omega
          · have t1 := unhide T0
            unfold Two at t1
            obtain ⟨h0, h1, h2, h3, h4, h5, h6, h7, h8, h9, h10, h11, h12, h13⟩ := t1
            by_cases hl0 : L.length = 0
            · have hall := HNIL.out.1 (List.eq_nil_of_length_eq_zero hl0)
              have q0 := hall 0 (by omega)
              have q1 := hall 1 (by omega)
              have q2 := hall 2 (by omega)
              have q3 := hall 3 (by omega)
              have q4 := hall 4 (by omega)
              have q5 := hall 5 (by omega)
              have q6 := hall 6 (by omega)
              have hq : ((L.length : Int) == 0) = true := by rw [beq_iff_eq]; omega
              clear hall
              go_wp2
              exact HR.out _ _ ⟨rfl, sym_below G0.out⟩
            · have hq : ((L.length : Int) == 0) = false := by rw [beq_eq_false_iff_ne]; omega
              have hnall : Hid (¬ ∀ j, j < 7 → T j = U j) := fun hh => hl0 (by rw [HNIL.out.2 hh]; rfl)
              clear hl0
              go_wp2
              all_goals first
                | exact HR.out _ _ ⟨rfl, sym_below G0.out⟩
                | exact (hnall.out (all7 (by assumption) (by assumption) (by assumption) (by assumption) (by assumption) (by assumption) (by assumption))).elim
end Go.Proofs.Qxb6600217a
