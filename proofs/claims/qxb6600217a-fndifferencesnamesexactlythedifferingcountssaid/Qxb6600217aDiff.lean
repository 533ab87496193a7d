import Derived.Test.Qxb6600217aBase
namespace Go.Proofs.Qxb6600217a
open Go.RowKit

theorem cell_one_at (w : World) (x : Value) (t n : Nat) (hn : w.heap.size = n) : ∀ j u, [x][j]? = some u → (w.alloc (.cells #[x] t)).cell? ((⟨n, 0, none⟩ : Addr).add j) = some u := by
  subst hn
  exact cell_one_new w x t

/-- What holds while the names are gathered. -/
structure Df (w wr : World) (T U : Nat → Int) (g cap k : Nat) : Prop where
  row : wr.ownsRow w.heap.size 9 1 (.slice (some ⟨g, 0, none⟩) (df T U k).length cap) (df T U k).length ((df T U k).map Value.string)
  t : wr.heap[w.heap.size]? = some (.cells #[.int .i64 (T 0), .int .i64 (T 1), .int .i64 (T 2), .int .i64 (T 3), .int .i64 (T 4), .int .i64 (T 5), .int .i64 (T 6)] 65 (0, 0))
  u : wr.heap[w.heap.size + 1]? = some (.cells #[.int .i64 (U 0), .int .i64 (U 1), .int .i64 (U 2), .int .i64 (U 3), .int .i64 (U 4), .int .i64 (U 5), .int .i64 (U 6)] 65 (0, 0))
  grown : w.grownBy wr none

theorem Df.lt {w wr : World} {T U : Nat → Int} {g cap k : Nat} (h : Df w wr T U g cap k) : w.heap.size + 1 < wr.heap.size ∧ g ≠ w.heap.size ∧ g ≠ w.heap.size + 1 ∧ w.heap.size ≤ g ∧ g < wr.heap.size := by
  have hl := h.row.lt g rfl
  refine ⟨(Array.getElem?_eq_some_iff.1 h.u).1, ?_, ?_, hl.1, hl.2⟩
  · rintro rfl
    rcases h.row.2 with ⟨e, _⟩ | ⟨g', cap', cur, e, _, hg, _⟩
    · cases e
    · cases e
      rw [h.t] at hg
      simp at hg
  · intro e0
    rcases h.row.2 with ⟨e, _⟩ | ⟨g', cap', cur, e, _, hg, _⟩
    · cases e
    · cases e
      rw [e0, h.u] at hg
      simp at hg

/-- A step that writes the names' row, or makes blocks, alone. -/
theorem Df.next {w wr w' : World} {T U : Nat → Int} {g cap k : Nat} (h : Df w wr T U g cap k) (hg : wr.grownBy w' (some g)) {g' cap' k' : Nat}
    (hr : w'.ownsRow w.heap.size 9 1 (.slice (some ⟨g', 0, none⟩) (df T U k').length cap') (df T U k').length ((df T U k').map Value.string)) : Df w w' T U g' cap' k' := by
  obtain ⟨h1, h2, h3, h4, h5⟩ := h.lt
  refine ⟨hr, (hg.block _ (by omega) (by simpa using fun e => h2 e.symm)).trans h.t, (hg.block _ (by omega) (by simpa using fun e => h3 e.symm)).trans h.u, ?_⟩
  refine ⟨hg.os.trans h.grown.os, hg.tape.trans h.grown.tape, hg.output.trans h.grown.output, Nat.le_trans h.grown.size hg.size, fun i hi _ => (hg.block i (by omega) ?_).trans (h.grown.block i hi (by simp))⟩
  intro e
  cases e
  omega

theorem Df.more {w wr w' : World} {T U : Nat → Int} {g cap k : Nat} (h : Df w wr T U g cap k) (hg : wr.grownBy w' none) : Df w w' T U g cap k :=
  h.next ⟨hg.os, hg.tape, hg.output, hg.size, fun i hi _ => hg.block i hi (by simp)⟩ (h.row.kept hg (by simp [Value.ownBlock]))

theorem df_same {T U : Nat → Int} {k : Nat} (h : T k = U k) : df T U (k + 1) = df T U k := by simp [df, h]
theorem df_diff {T U : Nat → Int} {k : Nat} (h : ¬ T k = U k) : df T U (k + 1) = df T U k ++ [nm k] := by simp [df, h]

theorem Df.same {w wr : World} {T U : Nat → Int} {g cap k : Nat} (h : Df w wr T U g cap k) (e : T k = U k) : Df w wr T U g cap (k + 1) := by
  refine ⟨?_, h.t, h.u, h.grown⟩
  rw [df_same e]
  exact h.row

/-- The name of count k is appended: at the end of an append whose world is that behind a block of the call's own, and a draw. -/
theorem Df.put {w wr w1 w2 : World} {T U : Nat → Int} {g cap k : Nat} (h : Df w wr T U g cap k) (hg1 : wr.grownBy w1 none) (e : ¬ T k = U k) {g' cap' : Nat}
    (hown : w2.ownsRow w.heap.size 9 1 (.slice (some ⟨g', 0, none⟩) ((df T U k).length + 1) cap') ((df T U k).length + 1) ((df T U k).map Value.string ++ [.string (nm k)])) (hg : w1.grownBy w2 (some g)) : Df w w2 T U g' cap' (k + 1) := by
  refine (h.more hg1).next hg ?_
  rw [df_diff e]
  simpa using hown

theorem first_names (T U : Nat → Int) (w : World) : Df w (((w.alloc (.cells #[.int .i64 (T 0), .int .i64 (T 1), .int .i64 (T 2), .int .i64 (T 3), .int .i64 (T 4), .int .i64 (T 5), .int .i64 (T 6)] 65)).alloc (.cells #[.int .i64 (U 0), .int .i64 (U 1), .int .i64 (U 2), .int .i64 (U 3), .int .i64 (U 4), .int .i64 (U 5), .int .i64 (U 6)] 65)).alloc (.cells #[] 9)) T U (w.heap.size + 1 + 1) 0 0 := by
  refine ⟨?_, ?_, ?_, ((World.grownBy_alloc w _ none).trans (World.grownBy_alloc _ _ none)).trans (World.grownBy_alloc _ _ none)⟩
  · have := World.ownsRow_made (base := w.heap.size) (e := 9) (size := 1) ((w.alloc (.cells #[.int .i64 (T 0), .int .i64 (T 1), .int .i64 (T 2), .int .i64 (T 3), .int .i64 (T 4), .int .i64 (T 5), .int .i64 (T 6)] 65)).alloc (.cells #[.int .i64 (U 0), .int .i64 (U 1), .int .i64 (U 2), .int .i64 (U 3), .int .i64 (U 4), .int .i64 (U 5), .int .i64 (U 6)] 65)) #[] 0 (by simp; omega) (by decide) (by simp)
    simpa [df] using this
  · rw [Go.heap_alloc_old _ _ (by simp; omega), Go.heap_alloc_old _ _ (by simp)]
    exact heap_alloc_new w _
  · rw [Go.heap_alloc_old _ _ (by simp)]
    have := heap_alloc_new (w.alloc (.cells #[.int .i64 (T 0), .int .i64 (T 1), .int .i64 (T 2), .int .i64 (T 3), .int .i64 (T 4), .int .i64 (T 5), .int .i64 (T 6)] 65)) (.cells #[.int .i64 (U 0), .int .i64 (U 1), .int .i64 (U 2), .int .i64 (U 3), .int .i64 (U 4), .int .i64 (U 5), .int .i64 (U 6)] 65)
    simpa using this

theorem at_old {wr : World} {b t j : Nat} {cs : Array Value} {o : Obj} {v : Value} (hb : b < wr.heap.size) (h : wr.heap[b]? = some (.cells cs t (0, 0))) (hv : cs[j]? = some v) : (wr.alloc o).cell? ⟨b, j, none⟩ = some v := by
  rw [cell_of_row _ b j cs t (0, 0) (by rw [Go.heap_alloc_old _ _ hb]; exact h)]
  exact hv

theorem kept_old {wr : World} {th n : Nat} {x o : Obj} (hb : th < wr.heap.size) (h : wr.heap[th]? = some x) : ((wr.alloc o).drewN n).heap[th]? = some x := by
  show (wr.alloc o).heap[th]? = some x
  rw [Go.heap_alloc_old _ _ hb]; exact h

theorem cell_one_atN (w : World) (x : Value) (t n m : Nat) (hn : w.heap.size = n) : ∀ j u, [x][j]? = some u → ((w.alloc (.cells #[x] t)).drewN m).cell? ((⟨n, 0, none⟩ : Addr).add j) = some u := cell_one_at w x t n hn

theorem grown2 (wr : World) (o o' : Obj) (n : Nat) : wr.grownBy (((wr.alloc o).alloc o').drewN n) none := by
  have := (World.grownBy_alloc wr o none).trans (World.grownBy_alloc _ o' none)
  exact ⟨this.os, this.tape, this.output, this.size, this.block⟩

theorem kept_far {wr w8 : World} {th g n : Nat} {x o o' : Obj} (hb : th < wr.heap.size) (h : wr.heap[th]? = some x) (hne : th ≠ g) (hg : (((wr.alloc o).alloc o').drewN n).grownBy w8 (some g)) : w8.heap[th]? = some x := by
  rw [hg.block th (by show th < ((wr.alloc o).alloc o').heap.size; simp; omega) (by simpa using hne)]
  show ((wr.alloc o).alloc o').heap[th]? = some x
  rw [Go.heap_alloc_old _ _ (by simp; omega), Go.heap_alloc_old _ _ hb]; exact h

theorem Df.far {w wr : World} {T U : Nat → Int} {g cap k th : Nat} {cs : Array Value} (h : Df w wr T U g cap k) (ht : wr.heap[th]? = some (.cells cs 62 (0, 0))) : th ≠ g := by
  rintro rfl
  rcases h.row.2 with ⟨e, _⟩ | ⟨g', cap', cur, e, _, hg, _⟩
  · cases e
  · cases e
    rw [ht] at hg
    simp at hg

theorem Df.drewN {w wr : World} {T U : Nat → Int} {g cap k : Nat} (h : Df w wr T U g cap k) (n : Nat) : Df w (wr.drewN n) T U g cap k := ⟨h.row, h.t, h.u, ⟨h.grown.os, h.grown.tape, h.grown.output, h.grown.size, h.grown.block⟩⟩

set_option maxRecDepth 100000 in
set_option maxHeartbeats 2000000 in
theorem diff19 (T U : Nat → Int) (w : World) :
    Calls Try.prog 19 #[.agg #[.int .i64 (T 0), .int .i64 (T 1), .int .i64 (T 2), .int .i64 (T 3), .int .i64 (T 4), .int .i64 (T 5), .int .i64 (T 6)], .agg #[.int .i64 (U 0), .int .i64 (U 1), .int .i64 (U 2), .int .i64 (U 3), .int .i64 (U 4), .int .i64 (U 5), .int .i64 (U 6)]] w fun e w' =>
      ∃ g cap, e = .returned (.slice (some ⟨g, 0, none⟩) (df T U 7).length cap) ∧ w'.ownsRow w.heap.size 9 1 (.slice (some ⟨g, 0, none⟩) (df T U 7).length cap) (df T U 7).length ((df T U 7).map Value.string) ∧ w.grownBy w' none := by
  refine hidR fun R HR => ?_
  obtain ⟨i0, hi, hz0, hz1, hz2⟩ := info_parts info9
  have D0 := hide (first_names T U w)
  go_enter Try.func19, Try.ntmps19
  go_upto_if 14 with fail
  go_cut [5] from 9 (fun v wx => ∃ g cap, v = .slice (some ⟨g, 0, none⟩) (df T U 1).length cap ∧ Df w wx T U g cap 1)
  case first =>
    by_cases h0 : T 0 = U 0
    · have hb : (T 0 != U 0) = false := by simp [h0]
      have H0 := hide h0
      clear h0
      go_wp2
      go_meet
      case rel => exact ⟨_, _, by rw [df_same H0.out]; rfl, D0.out.same H0.out⟩
    · have hb : (T 0 != U 0) = true := by simp [h0]
      have H0 := hide h0
      clear h0
      go_wp2_with (first
        | (at_builtin; refine wpList_append_shape _ rfl _ _ 48 rfl w.heap.size 9 i0 _ 1 16 Try.underlying48 hi hz0 hz1 hz2 rfl (by decide) (.slice (some ⟨w.heap.size + 1 + 1, 0, none⟩) 0 0) 0 [] rfl (by exact D0.out.row.alloc _) _ 1 1 [.string n0] rfl rfl (cell_one_at _ _ _ _ (by simp)) (by simp [Value.oneCell']) (by unfold maxLen; omega) (by omega) (by simp; omega) (by decide) ?_; intro g cap w1 hown1 hgrow1))
      go_meet
      case rel => exact ⟨g, cap, by rw [df_diff H0.out]; rfl, D0.out.put (World.grownBy_alloc _ _ none) H0.out hown1 hgrow1⟩
  case rest =>
    obtain ⟨g, cap, rfl, d1⟩ := hcut
    clear D0
    have D1 := hide d1
    clear d1
    go_wp2_with fail
    refine (columns18 _ _ _).mono ?_
    rintro e w5 ⟨rfl, g5⟩
    go_wp2_with fail
    refine (columns18 _ _ _).mono ?_
    rintro e w6 ⟨rfl, g6⟩
    go_wp2_with fail
    obtain ⟨th, hth⟩ : ∃ th, th = w5.heap.size := ⟨_, rfl⟩
    have TH : Hid (w6.heap[th]? = some (.cells #[.string n1, .pointer (some ⟨w.heap.size + 1, 1, none⟩), .string n2, .pointer (some ⟨w.heap.size + 1, 2, none⟩), .string n3, .pointer (some ⟨w.heap.size + 1, 3, none⟩), .string n4, .pointer (some ⟨w.heap.size + 1, 4, none⟩), .string n5, .pointer (some ⟨w.heap.size + 1, 5, none⟩), .string n6, .pointer (some ⟨w.heap.size + 1, 6, none⟩)] 62 (0, 0))) := by rw [hth]; exact (g6.block _ (by simp) (by simp)).trans (heap_alloc_new w5 _)
    have D6 : Hid (Df w w6 T U g cap 1) := ((D1.out.more g5).more (World.grownBy_alloc _ _ none)).more g6
    rw [← hth]
    clear hth D1 g5 g6
    go_loopw [5, 22] (fun v i wr => ∃ (k g cap : Nat), k ≤ 6 ∧ i = .int .i64 k ∧ v = .slice (some ⟨g, 0, none⟩) (df T U (k + 1)).length cap ∧ Df w wr T U g cap (k + 1) ∧ wr.heap[th]? = some (.cells #[.string n1, .pointer (some ⟨w.heap.size + 1, 1, none⟩), .string n2, .pointer (some ⟨w.heap.size + 1, 2, none⟩), .string n3, .pointer (some ⟨w.heap.size + 1, 3, none⟩), .string n4, .pointer (some ⟨w.heap.size + 1, 4, none⟩), .string n5, .pointer (some ⟨w.heap.size + 1, 5, none⟩), .string n6, .pointer (some ⟨w.heap.size + 1, 6, none⟩)] 62 (0, 0))) (fun _ i _ => 6 - (intOf i).toNat)
    case atStart => exact ⟨0, g, cap, by omega, rfl, rfl, D6.out, TH.out⟩
    case round =>
      clear D6 TH
      obtain ⟨k, g, cap, hk, rfl, rfl, d, th2⟩ := hrel
      have D := hide d
      have TH := hide th2
      have hlen := df_len T U (k + 1)
      have hlt := d.lt
      have hthl : th < wr.heap.size := (Array.getElem?_eq_some_iff.1 th2).1
      clear d th2
      rcases (show k = 6 ∨ k = 0 ∨ k = 1 ∨ k = 2 ∨ k = 3 ∨ k = 4 ∨ k = 5 by omega) with rfl | rfl | rfl | rfl | rfl | rfl | rfl
      · go_wp2
        exact HR.out _ _ ⟨g, cap, rfl, D.out.row, D.out.grown⟩
      · have hct : ∀ o, (wr.alloc o).cell? ⟨w.heap.size, 1, none⟩ = some (.int .i64 (T 1)) := fun o => at_old (by omega) D.out.t rfl
        have hcu : ∀ o, (wr.alloc o).cell? ⟨w.heap.size + 1, 1, none⟩ = some (.int .i64 (U 1)) := fun o => at_old (by omega) D.out.u rfl
        have hcp : ∀ o, (wr.alloc o).cell? ⟨th, 1, none⟩ = some (.pointer (some ⟨w.heap.size + 1, 1, none⟩)) := fun o => at_old hthl TH.out rfl
        have hix : ∀ w', (Instr.index 62 (.agg #[.string n1, .pointer (some ⟨w.heap.size, 1, none⟩), .string n2, .pointer (some ⟨w.heap.size, 2, none⟩), .string n3, .pointer (some ⟨w.heap.size, 3, none⟩), .string n4, .pointer (some ⟨w.heap.size, 4, none⟩), .string n5, .pointer (some ⟨w.heap.size, 5, none⟩), .string n6, .pointer (some ⟨w.heap.size, 6, none⟩)]) (.int .i64 0)).run Try.prog w' = .ok (.agg #[.string n1, .pointer (some ⟨w.heap.size, 1, none⟩)]) w' := fun _ => by kernel_rfl
        by_cases he : T 1 = U 1
        · have hb : (T 1 != U 1) = false := by simp [he]
          have HE := hide he
          clear he
          go_wp2
          go_quiet (fail)
          go_wp2
          go_roundw
          case rel => exact ⟨1, g, cap, by omega, by go_num, by rw [df_same HE.out], ((D.out.same HE.out).more (World.grownBy_alloc _ _ none)).drewN _, kept_old hthl TH.out⟩
          case measure => simp [intOf]
        · have hb : (T 1 != U 1) = true := by simp [he]
          have HE := hide he
          clear he
          go_wp2
          go_quiet (fail)
          go_wp2_with (first
            | (at_builtin; refine wpList_append_shape _ rfl _ _ 48 rfl w.heap.size 9 i0 _ 1 16 Try.underlying48 hi hz0 hz1 hz2 rfl (by decide) (.slice (some ⟨g, 0, none⟩) (df T U 1).length cap) _ _ rfl (by exact (D.out.row.alloc _).alloc _) _ 1 1 [.string n1] rfl rfl (by first | exact cell_one_at _ _ _ _ (by simp) | exact cell_one_atN _ _ _ _ _ (by simp)) (by simp [Value.oneCell']) (by unfold maxLen; omega) (by omega) (by simp; omega) (by decide) ?_; intro g2 cap2 w8 hown8 hgrow8))
          go_roundw
          case rel => exact ⟨1, g2, cap2, by omega, by go_num, by rw [df_diff HE.out]; simp, D.out.put (grown2 _ _ _ _) HE.out hown8 hgrow8, kept_far hthl TH.out (D.out.far TH.out) hgrow8⟩
          case measure => simp [intOf]
      · have hct : ∀ o, (wr.alloc o).cell? ⟨w.heap.size, 2, none⟩ = some (.int .i64 (T 2)) := fun o => at_old (by omega) D.out.t rfl
        have hcu : ∀ o, (wr.alloc o).cell? ⟨w.heap.size + 1, 2, none⟩ = some (.int .i64 (U 2)) := fun o => at_old (by omega) D.out.u rfl
        have hcp : ∀ o, (wr.alloc o).cell? ⟨th, 3, none⟩ = some (.pointer (some ⟨w.heap.size + 1, 2, none⟩)) := fun o => at_old hthl TH.out rfl
        have hix : ∀ w', (Instr.index 62 (.agg #[.string n1, .pointer (some ⟨w.heap.size, 1, none⟩), .string n2, .pointer (some ⟨w.heap.size, 2, none⟩), .string n3, .pointer (some ⟨w.heap.size, 3, none⟩), .string n4, .pointer (some ⟨w.heap.size, 4, none⟩), .string n5, .pointer (some ⟨w.heap.size, 5, none⟩), .string n6, .pointer (some ⟨w.heap.size, 6, none⟩)]) (.int .i64 1)).run Try.prog w' = .ok (.agg #[.string n2, .pointer (some ⟨w.heap.size, 2, none⟩)]) w' := fun _ => by kernel_rfl
        by_cases he : T 2 = U 2
        · have hb : (T 2 != U 2) = false := by simp [he]
          have HE := hide he
          clear he
          go_wp2
          go_quiet (fail)
          go_wp2
          go_roundw
          case rel => exact ⟨2, g, cap, by omega, by go_num, by rw [df_same HE.out], ((D.out.same HE.out).more (World.grownBy_alloc _ _ none)).drewN _, kept_old hthl TH.out⟩
          case measure => simp [intOf]
        · have hb : (T 2 != U 2) = true := by simp [he]
          have HE := hide he
          clear he
          go_wp2
          go_quiet (fail)
          go_wp2_with (first
            | (at_builtin; refine wpList_append_shape _ rfl _ _ 48 rfl w.heap.size 9 i0 _ 1 16 Try.underlying48 hi hz0 hz1 hz2 rfl (by decide) (.slice (some ⟨g, 0, none⟩) (df T U 2).length cap) _ _ rfl (by exact (D.out.row.alloc _).alloc _) _ 1 1 [.string n2] rfl rfl (by first | exact cell_one_at _ _ _ _ (by simp) | exact cell_one_atN _ _ _ _ _ (by simp)) (by simp [Value.oneCell']) (by unfold maxLen; omega) (by omega) (by simp; omega) (by decide) ?_; intro g2 cap2 w8 hown8 hgrow8))
          go_roundw
          case rel => exact ⟨2, g2, cap2, by omega, by go_num, by rw [df_diff HE.out]; simp, D.out.put (grown2 _ _ _ _) HE.out hown8 hgrow8, kept_far hthl TH.out (D.out.far TH.out) hgrow8⟩
          case measure => simp [intOf]
      · have hct : ∀ o, (wr.alloc o).cell? ⟨w.heap.size, 3, none⟩ = some (.int .i64 (T 3)) := fun o => at_old (by omega) D.out.t rfl
        have hcu : ∀ o, (wr.alloc o).cell? ⟨w.heap.size + 1, 3, none⟩ = some (.int .i64 (U 3)) := fun o => at_old (by omega) D.out.u rfl
        have hcp : ∀ o, (wr.alloc o).cell? ⟨th, 5, none⟩ = some (.pointer (some ⟨w.heap.size + 1, 3, none⟩)) := fun o => at_old hthl TH.out rfl
        have hix : ∀ w', (Instr.index 62 (.agg #[.string n1, .pointer (some ⟨w.heap.size, 1, none⟩), .string n2, .pointer (some ⟨w.heap.size, 2, none⟩), .string n3, .pointer (some ⟨w.heap.size, 3, none⟩), .string n4, .pointer (some ⟨w.heap.size, 4, none⟩), .string n5, .pointer (some ⟨w.heap.size, 5, none⟩), .string n6, .pointer (some ⟨w.heap.size, 6, none⟩)]) (.int .i64 2)).run Try.prog w' = .ok (.agg #[.string n3, .pointer (some ⟨w.heap.size, 3, none⟩)]) w' := fun _ => by kernel_rfl
        by_cases he : T 3 = U 3
        · have hb : (T 3 != U 3) = false := by simp [he]
          have HE := hide he
          clear he
          go_wp2
          go_quiet (fail)
          go_wp2
          go_roundw
          case rel => exact ⟨3, g, cap, by omega, by go_num, by rw [df_same HE.out], ((D.out.same HE.out).more (World.grownBy_alloc _ _ none)).drewN _, kept_old hthl TH.out⟩
          case measure => simp [intOf]
        · have hb : (T 3 != U 3) = true := by simp [he]
          have HE := hide he
          clear he
          go_wp2
          go_quiet (fail)
          go_wp2_with (first
            | (at_builtin; refine wpList_append_shape _ rfl _ _ 48 rfl w.heap.size 9 i0 _ 1 16 Try.underlying48 hi hz0 hz1 hz2 rfl (by decide) (.slice (some ⟨g, 0, none⟩) (df T U 3).length cap) _ _ rfl (by exact (D.out.row.alloc _).alloc _) _ 1 1 [.string n3] rfl rfl (by first | exact cell_one_at _ _ _ _ (by simp) | exact cell_one_atN _ _ _ _ _ (by simp)) (by simp [Value.oneCell']) (by unfold maxLen; omega) (by omega) (by simp; omega) (by decide) ?_; intro g2 cap2 w8 hown8 hgrow8))
          go_roundw
          case rel => exact ⟨3, g2, cap2, by omega, by go_num, by rw [df_diff HE.out]; simp, D.out.put (grown2 _ _ _ _) HE.out hown8 hgrow8, kept_far hthl TH.out (D.out.far TH.out) hgrow8⟩
          case measure => simp [intOf]
      · have hct : ∀ o, (wr.alloc o).cell? ⟨w.heap.size, 4, none⟩ = some (.int .i64 (T 4)) := fun o => at_old (by omega) D.out.t rfl
        have hcu : ∀ o, (wr.alloc o).cell? ⟨w.heap.size + 1, 4, none⟩ = some (.int .i64 (U 4)) := fun o => at_old (by omega) D.out.u rfl
        have hcp : ∀ o, (wr.alloc o).cell? ⟨th, 7, none⟩ = some (.pointer (some ⟨w.heap.size + 1, 4, none⟩)) := fun o => at_old hthl TH.out rfl
        have hix : ∀ w', (Instr.index 62 (.agg #[.string n1, .pointer (some ⟨w.heap.size, 1, none⟩), .string n2, .pointer (some ⟨w.heap.size, 2, none⟩), .string n3, .pointer (some ⟨w.heap.size, 3, none⟩), .string n4, .pointer (some ⟨w.heap.size, 4, none⟩), .string n5, .pointer (some ⟨w.heap.size, 5, none⟩), .string n6, .pointer (some ⟨w.heap.size, 6, none⟩)]) (.int .i64 3)).run Try.prog w' = .ok (.agg #[.string n4, .pointer (some ⟨w.heap.size, 4, none⟩)]) w' := fun _ => by kernel_rfl
        by_cases he : T 4 = U 4
        · have hb : (T 4 != U 4) = false := by simp [he]
          have HE := hide he
          clear he
          go_wp2
          go_quiet (fail)
          go_wp2
          go_roundw
          case rel => exact ⟨4, g, cap, by omega, by go_num, by rw [df_same HE.out], ((D.out.same HE.out).more (World.grownBy_alloc _ _ none)).drewN _, kept_old hthl TH.out⟩
          case measure => simp [intOf]
        · have hb : (T 4 != U 4) = true := by simp [he]
          have HE := hide he
          clear he
          go_wp2
          go_quiet (fail)
          go_wp2_with (first
            | (at_builtin; refine wpList_append_shape _ rfl _ _ 48 rfl w.heap.size 9 i0 _ 1 16 Try.underlying48 hi hz0 hz1 hz2 rfl (by decide) (.slice (some ⟨g, 0, none⟩) (df T U 4).length cap) _ _ rfl (by exact (D.out.row.alloc _).alloc _) _ 1 1 [.string n4] rfl rfl (by first | exact cell_one_at _ _ _ _ (by simp) | exact cell_one_atN _ _ _ _ _ (by simp)) (by simp [Value.oneCell']) (by unfold maxLen; omega) (by omega) (by simp; omega) (by decide) ?_; intro g2 cap2 w8 hown8 hgrow8))
          go_roundw
          case rel => exact ⟨4, g2, cap2, by omega, by go_num, by rw [df_diff HE.out]; simp, D.out.put (grown2 _ _ _ _) HE.out hown8 hgrow8, kept_far hthl TH.out (D.out.far TH.out) hgrow8⟩
          case measure => simp [intOf]
      · have hct : ∀ o, (wr.alloc o).cell? ⟨w.heap.size, 5, none⟩ = some (.int .i64 (T 5)) := fun o => at_old (by omega) D.out.t rfl
        have hcu : ∀ o, (wr.alloc o).cell? ⟨w.heap.size + 1, 5, none⟩ = some (.int .i64 (U 5)) := fun o => at_old (by omega) D.out.u rfl
        have hcp : ∀ o, (wr.alloc o).cell? ⟨th, 9, none⟩ = some (.pointer (some ⟨w.heap.size + 1, 5, none⟩)) := fun o => at_old hthl TH.out rfl
        have hix : ∀ w', (Instr.index 62 (.agg #[.string n1, .pointer (some ⟨w.heap.size, 1, none⟩), .string n2, .pointer (some ⟨w.heap.size, 2, none⟩), .string n3, .pointer (some ⟨w.heap.size, 3, none⟩), .string n4, .pointer (some ⟨w.heap.size, 4, none⟩), .string n5, .pointer (some ⟨w.heap.size, 5, none⟩), .string n6, .pointer (some ⟨w.heap.size, 6, none⟩)]) (.int .i64 4)).run Try.prog w' = .ok (.agg #[.string n5, .pointer (some ⟨w.heap.size, 5, none⟩)]) w' := fun _ => by kernel_rfl
        by_cases he : T 5 = U 5
        · have hb : (T 5 != U 5) = false := by simp [he]
          have HE := hide he
          clear he
          go_wp2
          go_quiet (fail)
          go_wp2
          go_roundw
          case rel => exact ⟨5, g, cap, by omega, by go_num, by rw [df_same HE.out], ((D.out.same HE.out).more (World.grownBy_alloc _ _ none)).drewN _, kept_old hthl TH.out⟩
          case measure => simp [intOf]
        · have hb : (T 5 != U 5) = true := by simp [he]
          have HE := hide he
          clear he
          go_wp2
          go_quiet (fail)
          go_wp2_with (first
            | (at_builtin; refine wpList_append_shape _ rfl _ _ 48 rfl w.heap.size 9 i0 _ 1 16 Try.underlying48 hi hz0 hz1 hz2 rfl (by decide) (.slice (some ⟨g, 0, none⟩) (df T U 5).length cap) _ _ rfl (by exact (D.out.row.alloc _).alloc _) _ 1 1 [.string n5] rfl rfl (by first | exact cell_one_at _ _ _ _ (by simp) | exact cell_one_atN _ _ _ _ _ (by simp)) (by simp [Value.oneCell']) (by unfold maxLen; omega) (by omega) (by simp; omega) (by decide) ?_; intro g2 cap2 w8 hown8 hgrow8))
          go_roundw
          case rel => exact ⟨5, g2, cap2, by omega, by go_num, by rw [df_diff HE.out]; simp, D.out.put (grown2 _ _ _ _) HE.out hown8 hgrow8, kept_far hthl TH.out (D.out.far TH.out) hgrow8⟩
          case measure => simp [intOf]
      · have hct : ∀ o, (wr.alloc o).cell? ⟨w.heap.size, 6, none⟩ = some (.int .i64 (T 6)) := fun o => at_old (by omega) D.out.t rfl
        have hcu : ∀ o, (wr.alloc o).cell? ⟨w.heap.size + 1, 6, none⟩ = some (.int .i64 (U 6)) := fun o => at_old (by omega) D.out.u rfl
        have hcp : ∀ o, (wr.alloc o).cell? ⟨th, 11, none⟩ = some (.pointer (some ⟨w.heap.size + 1, 6, none⟩)) := fun o => at_old hthl TH.out rfl
        have hix : ∀ w', (Instr.index 62 (.agg #[.string n1, .pointer (some ⟨w.heap.size, 1, none⟩), .string n2, .pointer (some ⟨w.heap.size, 2, none⟩), .string n3, .pointer (some ⟨w.heap.size, 3, none⟩), .string n4, .pointer (some ⟨w.heap.size, 4, none⟩), .string n5, .pointer (some ⟨w.heap.size, 5, none⟩), .string n6, .pointer (some ⟨w.heap.size, 6, none⟩)]) (.int .i64 5)).run Try.prog w' = .ok (.agg #[.string n6, .pointer (some ⟨w.heap.size, 6, none⟩)]) w' := fun _ => by kernel_rfl
        by_cases he : T 6 = U 6
        · have hb : (T 6 != U 6) = false := by simp [he]
          have HE := hide he
          clear he
          go_wp2
          go_quiet (fail)
          go_wp2
          go_roundw
          case rel => exact ⟨6, g, cap, by omega, by go_num, by rw [df_same HE.out], ((D.out.same HE.out).more (World.grownBy_alloc _ _ none)).drewN _, kept_old hthl TH.out⟩
          case measure => simp [intOf]
        · have hb : (T 6 != U 6) = true := by simp [he]
          have HE := hide he
          clear he
          go_wp2
          go_quiet (fail)
          go_wp2_with (first
            | (at_builtin; refine wpList_append_shape _ rfl _ _ 48 rfl w.heap.size 9 i0 _ 1 16 Try.underlying48 hi hz0 hz1 hz2 rfl (by decide) (.slice (some ⟨g, 0, none⟩) (df T U 6).length cap) _ _ rfl (by exact (D.out.row.alloc _).alloc _) _ 1 1 [.string n6] rfl rfl (by first | exact cell_one_at _ _ _ _ (by simp) | exact cell_one_atN _ _ _ _ _ (by simp)) (by simp [Value.oneCell']) (by unfold maxLen; omega) (by omega) (by simp; omega) (by decide) ?_; intro g2 cap2 w8 hown8 hgrow8))
          go_roundw
          case rel => exact ⟨6, g2, cap2, by omega, by go_num, by rw [df_diff HE.out]; simp, D.out.put (grown2 _ _ _ _) HE.out hown8 hgrow8, kept_far hthl TH.out (D.out.far TH.out) hgrow8⟩
          case measure => simp [intOf]
end Go.Proofs.Qxb6600217a
