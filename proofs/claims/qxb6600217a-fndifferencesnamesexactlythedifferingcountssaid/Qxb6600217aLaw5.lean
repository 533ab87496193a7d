import Derived.Test.Qxb6600217aMark
namespace Go.Proofs.Qxb6600217a
open Go.RowKit

set_option maxRecDepth 100000 in
set_option maxHeartbeats 2000000 in
theorem law5 (T U : Nat → Int) (w : World) :
    Calls Try.prog 5 #[.agg #[.int .i64 (T 0), .int .i64 (T 1), .int .i64 (T 2), .int .i64 (T 3), .int .i64 (T 4), .int .i64 (T 5), .int .i64 (T 6)], .agg #[.int .i64 (U 0), .int .i64 (U 1), .int .i64 (U 2), .int .i64 (U 3), .int .i64 (U 4), .int .i64 (U 5), .int .i64 (U 6)]] w fun e w' => e = .returned (.bool true) ∧ Below w.heap.size w w' := by
  refine hidR fun R HR => ?_
  have T0 := hide (two_new T U w)
  have G0 := hide ((World.grownBy_alloc w (.cells #[.int .i64 (T 0), .int .i64 (T 1), .int .i64 (T 2), .int .i64 (T 3), .int .i64 (T 4), .int .i64 (T 5), .int .i64 (T 6)] 47) none).trans (World.grownBy_alloc _ (.cells #[.int .i64 (U 0), .int .i64 (U 1), .int .i64 (U 2), .int .i64 (U 3), .int .i64 (U 4), .int .i64 (U 5), .int .i64 (U 6)] 47) none))
  go_enter Try.func5, Try.ntmps5
  go_upto_region 1 with fail
  obtain ⟨B, hB⟩ : ∃ B, B = w.heap.size := ⟨_, rfl⟩
  generalize ((w.alloc (.cells #[.int .i64 (T 0), .int .i64 (T 1), .int .i64 (T 2), .int .i64 (T 3), .int .i64 (T 4), .int .i64 (T 5), .int .i64 (T 6)] 47)).alloc (.cells #[.int .i64 (U 0), .int .i64 (U 1), .int .i64 (U 2), .int .i64 (U 3), .int .i64 (U 4), .int .i64 (U 5), .int .i64 (U 6)] 47)) = v1 at *
  rw [← hB] at T0
  rw [← hB]
  have HB := hide hB
  clear hB
  go_cut [5] from 13 (fun v wx => ∃ g cap, v = .slice (some ⟨g, 0, none⟩) (df T U 7).length cap ∧ wx.ownsRow B 9 1 (.slice (some ⟨g, 0, none⟩) (df T U 7).length cap) (df T U 7).length ((df T U 7).map Value.string) ∧ Two wx B T U ∧ w.grownBy wx none)
  case first =>
    have T1 := unhide T0
    have G1 : w.grownBy v1.drew none := drew_grown G0.out
    unfold Two at T1
    go_region_held3 (fun w' => w'.cell? ⟨B, 0, none⟩ = some (.int .i64 (T 0)) ∧ w'.cell? ⟨B, 1, none⟩ = some (.int .i64 (T 1)) ∧ w'.cell? ⟨B, 2, none⟩ = some (.int .i64 (T 2)) ∧ w'.cell? ⟨B, 3, none⟩ = some (.int .i64 (T 3)) ∧ w'.cell? ⟨B, 4, none⟩ = some (.int .i64 (T 4)) ∧ w'.cell? ⟨B, 5, none⟩ = some (.int .i64 (T 5)) ∧ w'.cell? ⟨B, 6, none⟩ = some (.int .i64 (T 6)) ∧ w'.cell? ⟨B + 1, 0, none⟩ = some (.int .i64 (U 0)) ∧ w'.cell? ⟨B + 1, 1, none⟩ = some (.int .i64 (U 1)) ∧ w'.cell? ⟨B + 1, 2, none⟩ = some (.int .i64 (U 2)) ∧ w'.cell? ⟨B + 1, 3, none⟩ = some (.int .i64 (U 3)) ∧ w'.cell? ⟨B + 1, 4, none⟩ = some (.int .i64 (U 4)) ∧ w'.cell? ⟨B + 1, 5, none⟩ = some (.int .i64 (U 5)) ∧ w'.cell? ⟨B + 1, 6, none⟩ = some (.int .i64 (U 6))) (first | (go_keep; done) | assumption)
      (first
        | (go_at_call 14; refine (amounts14 _ _ _ _ _ _ _ _).mono ?_; rintro e w5 ⟨rfl, g5⟩; have hS5 := Two.kept (B := B) (T := T) (U := U) g5 (by assumption); have hG5 := grown_then (w := w) g5 (by assumption))
        | (go_at_call 13; refine (diff13 T U _).mono ?_; rintro e w6 ⟨g, cap, rfl, h1, g6⟩; have hS6 := Two.kept (B := B) (T := T) (U := U) g6 (by assumption); have hG6 := grown_then (w := w) g6 (by assumption); have hB6 := low_of (w := w) h1 (by assumption)))
    have S6 := hide hS6
    have G6 := hide hG6
    have B6 := hide hB6
    clear hS6 hG6 hB6 h1 g6 T1
    go_wp2
    go_meet
    case rel => exact ⟨g, cap, rfl, by rw [HB.out]; exact B6.out, S6.out, G6.out⟩
  case rest =>
    obtain ⟨g1, cap1, rfl, r1, t1, gr1⟩ := hcut
    clear T0 G0 v1
    have hfl := df_len T U 7
    have ST0 := hide (st5_first (ix T U 7) r1 t1 gr1)
    have HX : Hid (df T U 7 = (ix T U 7).map nm) := df_ix T U 7
    have HS := hide (ix_sorted T U 7)
    have HM : Hid (∀ j, j ∈ ix T U 7 → j < 7) := fun j hj => ((ix_mem T U j 7).1 hj).1
    have HF : Hid (∀ j, j < 7 → sb (ix T U 7) (ix T U 7).length j = (T j != U j)) := fun j hj => sb_full T U hj
    obtain ⟨L, hL⟩ : ∃ L, L = df T U 7 := ⟨_, rfl⟩
    obtain ⟨X, hX⟩ : ∃ X, X = ix T U 7 := ⟨_, rfl⟩
    rw [← hX] at HX HS HM HF ST0
    rw [← hL] at HX hfl ST0
    rw [← hL]
    clear r1 t1 gr1 hL hX
    have hlx : Hid (L.length = X.length) := by rw [HX.out]; exact List.length_map _
    have heq := fun w a n c n' c' => Lib.run_eql_slice_nil (P := Try.prog) w 48 9 a n c n' c' Try.underlying48
    go_wp2
    clear heq
    obtain ⟨s, hs⟩ : ∃ s, s = wc.heap.size := ⟨_, rfl⟩
    generalize wc.alloc (.cells #[.bool false, .bool false, .bool false, .bool false, .bool false, .bool false, .bool false] 51) = v2 at *
    rw [← hs] at ST0
    rw [← hs]
    clear hs
    go_loopw [7, 8] (fun p j wj => ∃ (m : Nat), p = .int .i64 (pv X m) ∧ j = .int .i64 m ∧ m ≤ L.length ∧ St5 w wj B T U g1 cap1 L s X m) (fun _ j _ => L.length - (intOf j).toNat)
    case atStart => exact ⟨0, rfl, rfl, Nat.zero_le _, ST0.out⟩
    case round =>
      obtain ⟨m, rfl, rfl, hmp, st⟩ := hrel
      clear ST0
      have ST := hide st
      by_cases hme : m < L.length
      · have hmx : m < X.length := by have := hlx.out; omega
        have hc1 := str_at st.row hme
        have hn : L.getD m ByteArray.empty = nm (X.getD m 0) := by
          rw [HX.out]
          simp [List.getD, hmx]
        have hlt := pv_lt HS.out hmx
        have hx7 : X.getD m 0 < 7 := HM.out _ (by simp [List.getD, hmx])
        have hfz := st.seen.frozen (X.getD m 0)
        have hold := st.seen.cell hx7
        have NXT := hide (st.put hmx)
        have PV := hide (show pv X (m + 1) = (X.getD m 0 : Nat) from rfl)
        rw [hn] at hc1
        obtain ⟨x, hx⟩ : ∃ x, x = X.getD m 0 := ⟨_, rfl⟩
        rw [← hx] at hc1 hlt hx7 hfz hold NXT PV
        obtain ⟨ob, hob⟩ : ∃ ob, ob = sb X m x := ⟨_, rfl⟩
        simp only [← hob] at hold
        obtain ⟨pp, hpp⟩ : ∃ pp, pp = pv X m := ⟨_, rfl⟩
        rw [← hpp] at hlt
        rw [← hpp]
        clear hx hn st hob hpp
        go_wp2_with (go_at_call 15; refine (canon_at _ x hx7).mono ?_; rintro e w5 ⟨rfl, rfl⟩)
        go_roundw
        case rel => exact ⟨m + 1, by rw [PV.out], by go_num, by omega, NXT.out⟩
        case measure => simp [intOf]; omega
      · have hm0 : m = X.length := by have := hlx.out; omega
        subst hm0
        have t1 := st.two
        unfold Two at t1
        obtain ⟨h0, h1, h2, h3, h4, h5, h6, h7, h8, h9, h10, h11, h12, h13⟩ := t1
        clear st
        go_wp2_with fail
        refine (counts16 _ _ _ _ _ _ _ _).mono ?_
        rintro e w5 ⟨rfl, g5⟩
        have RT := hide (row_new T w5 37)
        have ST6 := hide ((ST.out.more g5).more (World.grownBy_alloc w5 (.cells #[.int .i64 (T 0), .int .i64 (T 1), .int .i64 (T 2), .int .i64 (T 3), .int .i64 (T 4), .int .i64 (T 5), .int .i64 (T 6)] 37) none))
        clear h0 h1 h2 h3 h4 h5 h6 h7 h8 h9 h10 h11 h12 h13 ST g5
        have t2 := ST6.out.two
        unfold Two at t2
        obtain ⟨h0, h1, h2, h3, h4, h5, h6, h7, h8, h9, h10, h11, h12, h13⟩ := t2
        go_wp2_with fail
        refine (counts16 _ _ _ _ _ _ _ _).mono ?_
        rintro e w6 ⟨rfl, g6⟩
        have ST7 := hide ((ST6.out.more g6).more (World.grownBy_alloc w6 (.cells #[.int .i64 (U 0), .int .i64 (U 1), .int .i64 (U 2), .int .i64 (U 3), .int .i64 (U 4), .int .i64 (U 5), .int .i64 (U 6)] 37) none))
        have RU := hide (row_new U w6 37)
        have RT7 := hide ((RT.out.of_block (g6.block _ RT.out.lt (by simp))).alloc (.cells #[.int .i64 (U 0), .int .i64 (U 1), .int .i64 (U 2), .int .i64 (U 3), .int .i64 (U 4), .int .i64 (U 5), .int .i64 (U 6)] 37))
        clear h0 h1 h2 h3 h4 h5 h6 h7 h8 h9 h10 h11 h12 h13 ST6 g6 RT
        go_wp2_with fail
        generalize w6.alloc (.cells #[.int .i64 (U 0), .int .i64 (U 1), .int .i64 (U 2), .int .i64 (U 3), .int .i64 (U 4), .int .i64 (U 5), .int .i64 (U 6)] 37) = v7 at *
        obtain ⟨ta, hta⟩ : ∃ ta, ta = w5.heap.size := ⟨_, rfl⟩
        obtain ⟨ua, hua⟩ : ∃ ua, ua = w6.heap.size := ⟨_, rfl⟩
        rw [← hta] at RT7
        rw [← hua] at RU
        rw [← hta, ← hua]
        clear hta hua
        go_loopw [12] (fun j wj => ∃ (m nq : Nat), j = .int .i64 m ∧ m ≤ 7 ∧ v7.drewN nq = wj) (fun j _ => 7 - (intOf j).toNat)
        case atStart => exact ⟨0, 0, rfl, Nat.zero_le _, rfl⟩
        case round =>
          obtain ⟨m, nq, rfl, hmp7, rfl⟩ := hrel
          by_cases hm7 : m < 7
          · have hcs := ST7.out.seen.cell hm7
            have hct := RT7.out.cell hm7
            have hcu := RU.out.cell hm7
            have hsb := HF.out m hm7
            simp only [hsb] at hcs
            have hbb : ((T m != U m) != (T m != U m)) = false := by simp
            clear hsb
            go_wp2
            go_quiet (fail)
            go_wp2
            go_roundw
            case rel => exact ⟨m + 1, _, by go_num, by omega, rfl⟩
            case measure => simp [intOf]; omega
          · go_wp2
            exact HR.out _ _ ⟨rfl, sym_below ST7.out.grown⟩
end Go.Proofs.Qxb6600217a
