import Derived.Test.Qxb6600216aPlain4
namespace Go.Proofs.Qxb6600216a
open Go.RowKit

theorem grown_drewN {w w1 : World} {n : Nat} (h : (w.drewN n).grownBy w1 none) : w.grownBy w1 none := ⟨h.os, h.tape, h.output, h.size, h.block⟩
theorem cells_drewN {w : World} {a : Option Addr} {len : Nat} {vs : List Value} (h : Cells w a len vs) (n : Nat) : Cells (w.drewN n) a len vs := h

theorem ints_at' {w : World} {a : Option Addr} {len k : Nat} {q : IntKind} {zs : List Int} (h : Ints q w a len zs) (hk : k < len) : ∃ b off, a = some ⟨b, off, none⟩ ∧ ∀ j, j < len → w.cell? ⟨b, off + j, none⟩ = some (.int q (zs.getD j 0)) := by
  obtain ⟨b, off, hx, _, hc⟩ := h.2.2 k hk
  have hl : zs.length = len := by simpa using h.1
  refine ⟨b, off, hx, fun j hj => ?_⟩
  rw [hc j hj]
  simp [List.getD, show j < zs.length by omega]

set_option maxRecDepth 100000 in
set_option maxHeartbeats 4000000 in
theorem law4 (a0 a1 a2 : Option Addr) (l0 l1 l2 c0 c1 c2 : Nat) (za zf ze : List Int) (w : World) (h0 : Ints .i32 w a0 l0 za) (h1 : Ints .i32 w a1 l1 zf) (h2 : Ints .i32 w a2 l2 ze)
    (m0 : l0 ≤ 9223372036854775807) (m1 : l1 ≤ 9223372036854775807) (m2 : l2 ≤ 9223372036854775807)
    (r0 : ∀ j, -2147483648 ≤ za.getD j 0 ∧ za.getD j 0 ≤ 2147483647) (r1 : ∀ j, -2147483648 ≤ zf.getD j 0 ∧ zf.getD j 0 ≤ 2147483647) (r2 : ∀ j, -2147483648 ≤ ze.getD j 0 ∧ ze.getD j 0 ≤ 2147483647) :
    Calls Try.prog 4 #[.slice a0 l0 c0, .slice a1 l1 c1, .slice a2 l2 c2] w fun e w' => e = .returned (.bool true) ∧ Below w.heap.size w w' := by
  refine hidR fun R HR => ?_
  obtain ⟨i0, hi, hz0, hz1, hz2⟩ := info_parts info48
  have H0 := hide h0
  have H1 := hide h1
  have H2 := hide h2
  have R0 := hide r0
  have R1 := hide r1
  have R2 := hide r2
  clear h0 h1 h2 r0 r1 r2
  by_cases p0 : l0 ≤ 65536
  · by_cases p1 : l1 ≤ 65536
    · by_cases p2 : l2 ≤ 65536
      · go_enter Try.func4, Try.ntmps4
        go_upto_if 51 with (first
          | (go_at_call 20; refine (bytes20 _ _ _ _ _ _ _ _ _ _).mono ?_; rintro e w' ⟨b6, rfl, rfl⟩; cases b6))
        · exact HR.out _ _ ⟨rfl, Below.refl _ _⟩
        · go_cut [7] from 46 (fun v wx => ∃ n : Nat, v = .int .i64 n ∧ n ≤ l0 ∧ n ≤ l1 ∧ w = wx)
          case first =>
            go_wp2
            all_goals go_meet
            case rel => exact ⟨l1, rfl, by omega, by omega, rfl⟩
            case rel => exact ⟨l0, rfl, by omega, by omega, rfl⟩
          case rest =>
            obtain ⟨n, rfl, hn0, hn1, rfl⟩ := hcut
            go_upto_if 57 with fail
            go_cut [7] from 18 (fun v wx => ∃ n : Nat, v = .int .i64 n ∧ n ≤ l0 ∧ n ≤ l1 ∧ n ≤ l2 ∧ w = wx)
            case first =>
              go_wp2
              all_goals go_meet
              case rel => exact ⟨l2, rfl, by omega, by omega, by omega, rfl⟩
              case rel => exact ⟨n, rfl, by omega, by omega, by omega, rfl⟩
            case rest =>
              clear hn0 hn1 n
              obtain ⟨n, rfl, hn0, hn1, hn2, rfl⟩ := hcut
              go_wp2
              go_loopw [8] (fun v wr => ∃ k nq : Nat, k ≤ n ∧ v = .int .i64 k ∧ (∀ j, j < k → 0 ≤ zf.getD j 0 ∧ zf.getD j 0 ≤ ze.getD j 0) ∧ w.drewN nq = wr) (fun v _ => n - (intOf v).toNat)
              case atStart => exact ⟨0, 0, Nat.zero_le _, rfl, fun j hj => absurd hj (by omega), rfl⟩
              case round =>
                obtain ⟨k, nq, hk, rfl, hgood, rfl⟩ := hrel
                have HG := hide hgood
                clear hgood
                by_cases hlt : k < n
                · obtain ⟨bf, of, rfl, cf⟩ := ints_at' H1.out (show k < l1 by omega)
                  obtain ⟨be, oe, rfl, ce⟩ := ints_at' H2.out (show k < l2 by omega)
                  have cfk := cf k (by omega)
                  have cek := ce k (by omega)
                  clear cf ce
                  obtain ⟨xf, hxf⟩ : ∃ x, x = zf.getD k 0 := ⟨_, rfl⟩
                  obtain ⟨xe, hxe⟩ : ∃ x, x = ze.getD k 0 := ⟨_, rfl⟩
                  rw [← hxf] at cfk
                  rw [← hxe] at cek
                  have HXF := hide hxf
                  have HXE := hide hxe
                  clear hxf hxe
                  by_cases g1 : xf < 0
                  · go_wp2
                    go_quiet (fail)
                    go_wp2
                    exact HR.out _ _ ⟨rfl, (by first | exact below_drawn _ _ | exact (below_drawn _ _).trans (below_drawn _ _))⟩
                  · have d1 : decide (xf < 0) = false := by simp; omega
                    by_cases g2 : xe < xf
                    · go_wp2
                      go_quiet (fail)
                      go_wp2
                      exact HR.out _ _ ⟨rfl, (by first | exact below_drawn _ _ | exact (below_drawn _ _).trans (below_drawn _ _))⟩
                    · have d2 : decide (xe < xf) = false := by simp; omega
                      go_wp2
                      go_quiet (fail)
                      go_wp2
                      go_roundw
                      case rel => exact ⟨k + 1, _, by omega, by go_num, good_succ HG.out HXF.out HXE.out (by omega) (by omega), rfl⟩
                      case measure => simp [intOf]; omega
                · obtain rfl : k = n := by omega
                  go_wp2_with (first
                    | (go_at_call_of 11 a0; refine (clone11 _ _ _ _ _ (cells_drewN (unhide H0) nq) (by omega)).mono ?_; rintro e w1 ⟨va, rfl, ha, ga'⟩; have ga := grown_drewN ga'; clear ga'; obtain ⟨ao, ca, rfl⟩ := owns_form ha)
                    | (go_at_call_of 11 a1; refine (clone11 _ _ _ _ _ (clone_keep (unhide H1) ga) (by omega)).mono ?_; rintro e w2 ⟨vf, rfl, hf, gf⟩; obtain ⟨fo, cf, rfl⟩ := owns_form hf)
                    | (go_at_call_of 11 a2; refine (clone11 _ _ _ _ _ (clone_keep (clone_keep (unhide H2) ga) gf) (by omega)).mono ?_; rintro e w3 ⟨ve, rfl, he, ge⟩; obtain ⟨eo, ce, rfl⟩ := owns_form he)
                    | (at_make; refine wpList_make_full _ rfl _ _ 46 rfl w.heap.size 48 i0 _ 3 Try.underlying46 hi hz0 hz1 _ _ _ _ k rfl rfl rfl rfl (by rw [hz2]; omega) (by unfold maxLen; omega) (by have := ga.size; have := gf.size; have := ge.size; omega) ?_; intro w4 hown4 hgrow4; have LAY := hide (lay_start (w := w) ha ga hf gf he ge hown4 hgrow4); clear hown4 hgrow4))
                  clear ha ga hf gf he ge H0 H1 H2
                  obtain ⟨G, hG⟩ : ∃ G, G = w3.heap.size := ⟨_, rfl⟩
                  rw [← hG] at LAY
                  rw [← hG]
                  clear hG
                  obtain ⟨n, hnk⟩ : ∃ n, n = k := ⟨_, rfl⟩
                  subst hnk
                  go_loopw [10] (fun v wr => ∃ k : Nat, k ≤ n ∧ v = .int .i64 k ∧ Lay w wr G (.slice ao l0 ca) (.slice fo l1 cf) (.slice eo l2 ce) l0 l1 l2 n za zf ze k) (fun v _ => n - (intOf v).toNat)
                  case atStart => exact ⟨0, Nat.zero_le _, rfl, LAY.out⟩
                  case round =>
                    clear LAY
                    obtain ⟨k, hk, rfl, lay⟩ := hrel
                    by_cases hlt : k < n
                    · obtain ⟨ga, rfl, cca⟩ := owns_at lay.a (show k < l0 by omega)
                      obtain ⟨gf, rfl, ccf⟩ := owns_at lay.f (show k < l1 by omega)
                      obtain ⟨ge, rfl, cce⟩ := owns_at lay.e (show k < l2 by omega)
                      obtain ⟨hfz, hgs, u0, u1, u2, cr0, cr1, cr2⟩ := lay.free hlt
                      have hf0 := hfz (k * 3)
                      have hf1 := hfz (k * 3 + 1)
                      have hf2 := hfz (k * 3 + 2)
                      have na : ga ≠ G := lay.ne_a
                      have nf : gf ≠ G := lay.ne_f
                      have ne : ge ≠ G := lay.ne_e
                      have ib0 : (k : Int) < (l0 : Int) := by omega
                      have ib1 : (k : Int) < (l1 : Int) := by omega
                      have ib2 : (k : Int) < (l2 : Int) := by omega
                      have ib3 : (k : Int) < (n : Int) := by omega
                      have L := hide lay
                      clear lay hfz
                      obtain ⟨xa, hxa⟩ : ∃ x, x = za.getD k 0 := ⟨_, rfl⟩
                      obtain ⟨xf, hxf⟩ : ∃ x, x = zf.getD k 0 := ⟨_, rfl⟩
                      obtain ⟨xe, hxe⟩ : ∃ x, x = ze.getD k 0 := ⟨_, rfl⟩
                      rw [← hxa] at cca
                      rw [← hxf] at ccf
                      rw [← hxe] at cce
                      have HXA := hide hxa
                      have HXF := hide hxf
                      have HXE := hide hxe
                      clear hxa hxf hxe
                      go_wp2
                      go_region_held3 (fun w' => w'.cell? ⟨ga, k, none⟩ = some (.int .i32 xa) ∧ w'.cell? ⟨gf, k, none⟩ = some (.int .i32 xf) ∧ w'.cell? ⟨ge, k, none⟩ = some (.int .i32 xe)) (first | (go_keep; done) | (refine ⟨?_, ?_, ?_⟩; (with_reducible exact cell_keep3 cca na); (with_reducible exact cell_keep3 ccf nf); (with_reducible exact cell_keep3 cce ne)))
                        (first | (go_at_call 21; refine (run21 _ _ _ _).mono ?_; rintro e w' ⟨rfl, rfl⟩))
                      go_wp2
                      have L5 := hide (L.out.step hlt (.cells #[.int .i32 xa, .int .i32 xf, .int .i32 xe] 48) HXA.out HXF.out HXE.out)
                      go_roundw
                      case rel => exact ⟨k + 1, by omega, by go_num, L5.out⟩
                      case measure => simp [intOf]; omega
                    · obtain rfl : k = n := by omega
                      have L := hide lay
                      clear lay
                      obtain ⟨A, hA⟩ : ∃ A : Nat → Int, A = fun j => za.getD j 0 := ⟨_, rfl⟩
                      obtain ⟨S, hS⟩ : ∃ S : Nat → Int, S = fun j => wrap32 (ze.getD j 0 - zf.getD j 0) := ⟨_, rfl⟩
                      have hAj : ∀ j, A j = za.getD j 0 := fun j => by rw [hA]
                      have hSj : ∀ j, j < k → S j = ze.getD j 0 - zf.getD j 0 ∧ 0 ≤ S j ∧ S j ≤ 2147483647 := by
                        intro j hj
                        have g1 := HG.out j hj
                        have g2 := R1.out j
                        have g3 := R2.out j
                        have e : S j = ze.getD j 0 - zf.getD j 0 := by rw [hS]; exact wrap32_in (by omega) (by omega)
                        omega
                      have hBE := hide (fun nq => bend22 _ _ k _ _ _ _ _ (L.out.drewN nq).runs0 (by omega) (fun j => (rfl : wrap32 (ze.getD j 0 - zf.getD j 0) = _)))
                      rw [← hS, ← hA] at hBE
                      have HAJ := hide hAj
                      have HSJ := hide hSj
                      clear hA hS hAj hSj HG R0
                      go_wp2
                      go_loopw [11, 12, 13] (fun vb vy vi wx => ∃ (t b : Nat) (y : Int), t ≤ k ∧ vi = .int .i64 ((t : Int) + 1) ∧ vb = .int .i64 b ∧ vy = .int .i64 y ∧ y = sm S t ∧ (0 ≤ y ∧ y ≤ 2147483647 * (t : Int)) ∧ Best A S k t b ∧ ∃ nq, wr.drewN nq = wx) (fun _ _ vi _ => k + 1 - (intOf vi).toNat)
                      case atStart => exact ⟨0, 0, 0, Nat.zero_le _, rfl, rfl, rfl, rfl, by omega, best_zero _ _ _, 0, rfl⟩
                      case round =>
                        obtain ⟨t, b, y, ht, rfl, rfl, rfl, hy, hyb, hbest, nq, rfl⟩ := hrel
                        have HY := hide hy
                        have HB := hide hbest
                        clear hy hbest
                        by_cases hlt : t < k
                        · obtain ⟨gf, rfl, ccf⟩ := owns_at L.out.f (show t < l1 by omega)
                          obtain ⟨ge, rfl, cce⟩ := owns_at L.out.e (show t < l2 by omega)
                          obtain ⟨ga, rfl, cca⟩ := owns_at L.out.a (show t < l0 by omega)
                          obtain ⟨xf, hxf⟩ : ∃ x, x = zf.getD t 0 := ⟨_, rfl⟩
                          obtain ⟨xe, hxe⟩ : ∃ x, x = ze.getD t 0 := ⟨_, rfl⟩
                          obtain ⟨s1, s2, s3⟩ := HSJ.out t hlt
                          have xr1 := R1.out t
                          have xr2 := R2.out t
                          rw [← hxf] at ccf s1 xr1
                          rw [← hxe] at cce s1 xr2
                          rw [← HAJ.out t] at cca
                          have HS1 := hide s1
                          have sb : 0 ≤ xe - xf ∧ xe - xf ≤ 2147483647 := by omega
                          clear hxf hxe s1 s2 s3
                          have hyb2 : y ≤ 281474976710656 := by omega
                          have e1 : IntKind.i64.wrap xe = xe := by rw [IntKind.wrap_i64]; omega
                          have e2 : IntKind.i64.wrap xf = xf := by rw [IntKind.wrap_i64]; omega
                          have e3 : IntKind.i64.wrap (xe - xf) = xe - xf := by rw [IntKind.wrap_i64]; omega
                          have e4 : IntKind.i64.wrap (y + (xe - xf)) = y + (xe - xf) := by rw [IntKind.wrap_i64]; omega
                          have NXT : Hid (y + (xe - xf) = sm S (t + 1) ∧ 0 ≤ y + (xe - xf) ∧ y + (xe - xf) ≤ 2147483647 * ((t + 1 : Nat) : Int)) := by
                            have h1 := HS1.out
                            have h2 := HY.out
                            refine ⟨?_, by omega, by omega⟩
                            simp only [sm]
                            omega
                          go_wp2
                          go_quiet (fail)
                          clear e1 e2 e3 e4
                          go_wp2
                          by_cases h64 : y + (xe - xf) ≤ 64
                          · have hq3 : decide (y + (xe - xf) ≤ 64) = true := by simp; omega
                            by_cases htk : t + 1 = k
                            · have hq1 : ((t : Int) + 1 == (k : Int)) = true := by simp; omega
                              have HTK := hide htk
                              clear htk
                              go_quiet (fail)
                              go_wp2
                              go_roundw
                              case rel => exact ⟨t + 1, t + 1, _, by omega, by go_num, by go_num, rfl, NXT.out.1, NXT.out.2, best_yes HB.out ⟨.inl HTK.out, by rw [← NXT.out.1]; omega⟩, (by first | exact ⟨_, rfl⟩ | exact drawn2 _ _ _ | (simp only [World.drewN_drewN]; exact ⟨_, rfl⟩))⟩
                              case measure => simp [intOf]; omega
                            · have hq1 : ((t : Int) + 1 == (k : Int)) = false := by simp; omega
                              obtain ⟨_, e5, cca1⟩ := owns_at L.out.a (show t + 1 < l0 by omega)
                              cases e5
                              rw [← HAJ.out (t + 1)] at cca1
                              by_cases hac : A (t + 1) = A t
                              · have hq2 : (A (t + 1) != A t) = false := by simp [hac]
                                have HAC := hide hac
                                clear hac
                                go_quiet (fail)
                                go_wp2
                                go_roundw
                                case rel => exact ⟨t + 1, b, _, by omega, by go_num, rfl, rfl, NXT.out.1, NXT.out.2, best_no HB.out (fun hf => by rcases hf.1 with e | e; exact absurd e (by omega); exact e (by simpa using HAC.out)), (by first | exact ⟨_, rfl⟩ | exact drawn2 _ _ _ | (simp only [World.drewN_drewN]; exact ⟨_, rfl⟩))⟩
                                case measure => simp [intOf]; omega
                              · have hq2 : (A (t + 1) != A t) = true := by simp [hac]
                                have HAC := hide hac
                                clear hac
                                go_quiet (fail)
                                go_wp2
                                go_roundw
                                case rel => exact ⟨t + 1, t + 1, _, by omega, by go_num, by go_num, rfl, NXT.out.1, NXT.out.2, best_yes HB.out ⟨.inr (by simpa using HAC.out), by rw [← NXT.out.1]; omega⟩, (by first | exact ⟨_, rfl⟩ | exact drawn2 _ _ _ | (simp only [World.drewN_drewN]; exact ⟨_, rfl⟩))⟩
                                case measure => simp [intOf]; omega
                          · have hq3 : decide (y + (xe - xf) ≤ 64) = false := by simp; omega
                            by_cases htk : t + 1 = k
                            · have hq1 : ((t : Int) + 1 == (k : Int)) = true := by simp; omega
                              clear htk
                              go_quiet (fail)
                              go_wp2
                              go_roundw
                              case rel => exact ⟨t + 1, b, _, by omega, by go_num, rfl, rfl, NXT.out.1, NXT.out.2, best_no HB.out (fun hf => by have h9 := hf.2; rw [← NXT.out.1] at h9; omega), (by first | exact ⟨_, rfl⟩ | exact drawn2 _ _ _ | (simp only [World.drewN_drewN]; exact ⟨_, rfl⟩))⟩
                              case measure => simp [intOf]; omega
                            · have hq1 : ((t : Int) + 1 == (k : Int)) = false := by simp; omega
                              obtain ⟨_, e5, cca1⟩ := owns_at L.out.a (show t + 1 < l0 by omega)
                              cases e5
                              rw [← HAJ.out (t + 1)] at cca1
                              by_cases hac : A (t + 1) = A t
                              · have hq2 : (A (t + 1) != A t) = false := by simp [hac]
                                clear hac
                                go_quiet (fail)
                                go_wp2
                                go_roundw
                                case rel => exact ⟨t + 1, b, _, by omega, by go_num, rfl, rfl, NXT.out.1, NXT.out.2, best_no HB.out (fun hf => by have h9 := hf.2; rw [← NXT.out.1] at h9; omega), (by first | exact ⟨_, rfl⟩ | exact drawn2 _ _ _ | (simp only [World.drewN_drewN]; exact ⟨_, rfl⟩))⟩
                                case measure => simp [intOf]; omega
                              · have hq2 : (A (t + 1) != A t) = true := by simp [hac]
                                clear hac
                                go_quiet (fail)
                                go_wp2
                                go_roundw
                                case rel => exact ⟨t + 1, b, _, by omega, by go_num, rfl, rfl, NXT.out.1, NXT.out.2, best_no HB.out (fun hf => by have h9 := hf.2; rw [← NXT.out.1] at h9; omega), (by first | exact ⟨_, rfl⟩ | exact drawn2 _ _ _ | (simp only [World.drewN_drewN]; exact ⟨_, rfl⟩))⟩
                                case measure => simp [intOf]; omega
                        · obtain rfl : t = k := by omega
                          have hbt := HB.out.1
                          have SNN : Hid (∀ j, j < t → 0 ≤ S j) := fun j hj => (HSJ.out j hj).2.1
                          by_cases hb0 : 0 < b
                          · obtain ⟨ga, rfl, cca0⟩ := owns_at L.out.a (show 0 < l0 by omega)
                            obtain ⟨_, e5, ccb⟩ := owns_at L.out.a (show b - 1 < l0 by omega)
                            cases e5
                            rw [← HAJ.out 0] at cca0
                            rw [← HAJ.out (b - 1)] at ccb
                            go_wp2
                            go_quiet (fail)
                            go_wp2_with fail
                            refine ((unhide hBE) _).mono ?_
                            rintro e w' ⟨kk, f, rfl, hbe, nq2, rfl⟩
                            obtain ⟨e1, e2⟩ := (bend_best hbe SNN.out HB.out).1 hb0
                            clear hbe
                            subst e1
                            rw [e2]
                            clear e2
                            go_wp2
                            exact HR.out _ _ ⟨rfl, (by first | exact (L.out.drewN _).below | exact ((L.out.drewN _).drewN _).below | exact (((L.out.drewN _).drewN _).drewN _).below)⟩
                          · obtain rfl : b = 0 := by omega
                            go_wp2
                            go_loopw [14] (fun v wx => ∃ q : Nat, q ≤ t ∧ v = .int .i64 q ∧ (∀ j, j < q → A j = A 0) ∧ ∃ nq, wr.drewN nq = wx) (fun v _ => t - (intOf v).toNat)
                            case atStart => exact ⟨0, Nat.zero_le _, rfl, fun j hj => absurd hj (by omega), _, rfl⟩
                            case round =>
                              obtain ⟨q, hq, rfl, hall, nq3, rfl⟩ := hrel
                              have HALL := hide hall
                              clear hall
                              by_cases hqt : q < t
                              · obtain ⟨ga, rfl, ccq⟩ := owns_at L.out.a (show q < l0 by omega)
                                obtain ⟨_, e5, cc0⟩ := owns_at L.out.a (show 0 < l0 by omega)
                                cases e5
                                rw [← HAJ.out 0] at cc0
                                rw [← HAJ.out q] at ccq
                                by_cases hac : A q = A 0
                                · have hq2 : (A q == A 0) = true := by simp [hac]
                                  have HAC := hide hac
                                  clear hac
                                  go_wp2
                                  go_quiet (fail)
                                  go_wp2
                                  go_roundw
                                  case rel => exact ⟨q + 1, by omega, by go_num, all_succ HALL.out HAC.out, (by first | exact ⟨_, rfl⟩ | exact drawn2 _ _ _ | (simp only [World.drewN_drewN]; exact ⟨_, rfl⟩))⟩
                                  case measure => simp [intOf]; omega
                                · have hq2 : (A q == A 0) = false := by simp [hac]
                                  have HAC := hide hac
                                  clear hac
                                  go_wp2
                                  go_quiet (fail)
                                  go_wp2_with fail
                                  refine ((unhide hBE) _).mono ?_
                                  rintro e w' ⟨kk, f, rfl, hbe, nq2, rfl⟩
                                  obtain ⟨e1, e2⟩ := (bend_best hbe SNN.out HB.out).2 rfl
                                  have e3 := lead_uniq e2 ⟨hq, HALL.out, .inr HAC.out⟩
                                  clear hbe
                                  subst e1 e3
                                  go_wp2
                                  exact HR.out _ _ ⟨rfl, (by first | exact (L.out.drewN _).below | exact ((L.out.drewN _).drewN _).below | exact (((L.out.drewN _).drewN _).drewN _).below)⟩
                              · have hdec : decide (q < t) = false := by simp; omega
                                go_wp2
                                go_quiet (fail)
                                go_wp2_with fail
                                refine ((unhide hBE) _).mono ?_
                                rintro e w' ⟨kk, f, rfl, hbe, nq2, rfl⟩
                                obtain ⟨e1, e2⟩ := (bend_best hbe SNN.out HB.out).2 rfl
                                have e3 := lead_uniq e2 ⟨hq, HALL.out, .inl (by omega)⟩
                                clear hbe
                                subst e1 e3
                                go_wp2
                                exact HR.out _ _ ⟨rfl, (by first | exact (L.out.drewN _).below | exact ((L.out.drewN _).drewN _).below | exact (((L.out.drewN _).drewN _).drewN _).below)⟩
      · go_enter Try.func4, Try.ntmps4
        go_wp2_with (first
          | (go_at_call 20; refine (bytes20 _ _ _ _ _ _ _ _ _ _).mono ?_; rintro e w' ⟨b6, rfl, rfl⟩; cases b6))
        all_goals exact HR.out _ _ ⟨rfl, Below.refl _ _⟩
    · go_enter Try.func4, Try.ntmps4
      go_wp2_with (first
        | (go_at_call 20; refine (bytes20 _ _ _ _ _ _ _ _ _ _).mono ?_; rintro e w' ⟨b6, rfl, rfl⟩; cases b6))
      all_goals exact HR.out _ _ ⟨rfl, Below.refl _ _⟩
  · go_enter Try.func4, Try.ntmps4
    go_wp2_with (first
      | (go_at_call 20; refine (bytes20 _ _ _ _ _ _ _ _ _ _).mono ?_; rintro e w' ⟨b6, rfl, rfl⟩; cases b6))
    all_goals exact HR.out _ _ ⟨rfl, Below.refl _ _⟩
end Go.Proofs.Qxb6600216a
