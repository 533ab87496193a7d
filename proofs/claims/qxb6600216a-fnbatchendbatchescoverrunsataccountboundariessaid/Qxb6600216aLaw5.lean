import Derived.Test.Qxb6600216aLay
namespace Go.Proofs.Qxb6600216a
open Go.RowKit

set_option maxRecDepth 100000 in
set_option maxHeartbeats 2000000 in
theorem law5 (a0 a1 a2 : Option Addr) (l0 l1 l2 c0 c1 c2 : Nat) (za zf ze : List Int) (w : World) (h0 : Ints .i32 w a0 l0 za) (h1 : Ints .i32 w a1 l1 zf) (h2 : Ints .i32 w a2 l2 ze)
    (m0 : l0 ≤ 9223372036854775807) (m1 : l1 ≤ 9223372036854775807) (m2 : l2 ≤ 9223372036854775807) :
    Calls Try.prog 5 #[.slice a0 l0 c0, .slice a1 l1 c1, .slice a2 l2 c2] w fun e w' => e = .returned (.bool true) ∧ Below w.heap.size w w' := by
  refine hidR fun R HR => ?_
  obtain ⟨i0, hi, hz0, hz1, hz2⟩ := info_parts info48
  have H0 := hide h0
  have H1 := hide h1
  have H2 := hide h2
  clear h0 h1 h2
  by_cases p0 : l0 ≤ 65536
  · by_cases p1 : l1 ≤ 65536
    · by_cases p2 : l2 ≤ 65536
      · go_enter Try.func5, Try.ntmps5
        go_upto_if 53 with (first
          | (go_at_call 23; refine (bytes23 _ _ _ _ _ _ _ _ _ _).mono ?_; rintro e w' ⟨b6, rfl, rfl⟩; cases b6)
          | (go_at_call_of 11 a0; refine (clone11 _ _ _ _ _ (unhide H0) (by omega)).mono ?_; rintro e w1 ⟨va, rfl, ha, ga⟩; obtain ⟨ao, ca, rfl⟩ := owns_form ha)
          | (go_at_call_of 11 a1; refine (clone11 _ _ _ _ _ (clone_keep (unhide H1) ga) (by omega)).mono ?_; rintro e w2 ⟨vf, rfl, hf, gf⟩; obtain ⟨fo, cf, rfl⟩ := owns_form hf)
          | (go_at_call_of 11 a2; refine (clone11 _ _ _ _ _ (clone_keep (clone_keep (unhide H2) ga) gf) (by omega)).mono ?_; rintro e w3 ⟨ve, rfl, he, ge⟩; obtain ⟨eo, ce, rfl⟩ := owns_form he))
        · exact HR.out _ _ ⟨rfl, Below.refl _ _⟩
        · go_cut [7] from 48 (fun v wx => ∃ n : Nat, v = .int .i64 n ∧ n ≤ l0 ∧ n ≤ l1 ∧ w3 = wx)
          case first =>
            go_wp2
            all_goals go_meet
            case rel => exact ⟨l1, rfl, by omega, by omega, rfl⟩
            case rel => exact ⟨l0, rfl, by omega, by omega, rfl⟩
          case rest =>
            obtain ⟨n, rfl, hn0, hn1, rfl⟩ := hcut
            go_upto_if 59 with fail
            go_cut [7] from 48 (fun v wx => ∃ n : Nat, v = .int .i64 n ∧ n ≤ l0 ∧ n ≤ l1 ∧ n ≤ l2 ∧ w3 = wx)
            case first =>
              go_wp2
              all_goals go_meet
              case rel => exact ⟨l2, rfl, by omega, by omega, by omega, rfl⟩
              case rel => exact ⟨n, rfl, by omega, by omega, by omega, rfl⟩
            case rest =>
              clear hn0 hn1 n
              obtain ⟨n, rfl, hn0, hn1, hn2, rfl⟩ := hcut
              go_wp2_with (first
                | (at_make; refine wpList_make_full _ rfl _ _ 46 rfl w.heap.size 48 i0 _ 3 Try.underlying46 hi hz0 hz1 _ _ _ _ n rfl rfl rfl rfl (by rw [hz2]; omega) (by unfold maxLen; omega) (by have := ga.size; have := gf.size; have := ge.size; omega) ?_; intro w4 hown4 hgrow4; have LAY := hide (lay_start ha ga hf gf he ge hown4 hgrow4); clear hown4 hgrow4))
              clear ha ga hf gf he ge H0 H1 H2
              obtain ⟨G, hG⟩ : ∃ G, G = w3.heap.size := ⟨_, rfl⟩
              rw [← hG] at LAY
              rw [← hG]
              clear hG
              go_loopw [9] (fun v wr => ∃ k : Nat, k ≤ n ∧ v = .int .i64 k ∧ Lay w wr G (.slice ao l0 ca) (.slice fo l1 cf) (.slice eo l2 ce) l0 l1 l2 n za zf ze k) (fun v _ => n - (intOf v).toNat)
              case atStart => exact ⟨0, Nat.zero_le _, rfl, LAY.out⟩
              case round =>
                clear LAY
                obtain ⟨k, hk, rfl, lay⟩ := hrel
                by_cases hlt : k < n
                · obtain ⟨ga, rfl, cca⟩ := owns_at lay.a (show k < l0 by omega)
                  obtain ⟨gf, rfl, ccf⟩ := owns_at lay.f (show k < l1 by omega)
                  obtain ⟨ge, rfl, cce⟩ := owns_at lay.e (show k < l2 by omega)
                  obtain ⟨hfz, hgs, u0, u1, u2, cr0, cr1, cr2⟩ := lay.free hlt
                  have hf0 := hfz (k * 3)
                  have hf1 := hfz (k * 3 + 1)
                  have hf2 := hfz (k * 3 + 2)
                  have na : ga ≠ G := lay.ne_a
                  have nf : gf ≠ G := lay.ne_f
                  have ne : ge ≠ G := lay.ne_e
                  have ib0 : (k : Int) < (l0 : Int) := by omega
                  have ib1 : (k : Int) < (l1 : Int) := by omega
                  have ib2 : (k : Int) < (l2 : Int) := by omega
                  have ib3 : (k : Int) < (n : Int) := by omega
                  have L := hide lay
                  clear lay hfz
                  obtain ⟨xa, hxa⟩ : ∃ x, x = za.getD k 0 := ⟨_, rfl⟩
                  obtain ⟨xf, hxf⟩ : ∃ x, x = zf.getD k 0 := ⟨_, rfl⟩
                  obtain ⟨xe, hxe⟩ : ∃ x, x = ze.getD k 0 := ⟨_, rfl⟩
                  rw [← hxa] at cca
                  rw [← hxf] at ccf
                  rw [← hxe] at cce
                  have HXA := hide hxa
                  have HXF := hide hxf
                  have HXE := hide hxe
                  clear hxa hxf hxe
                  go_wp2
                  go_region_held3 (fun w' => w'.cell? ⟨ga, k, none⟩ = some (.int .i32 xa) ∧ w'.cell? ⟨gf, k, none⟩ = some (.int .i32 xf) ∧ w'.cell? ⟨ge, k, none⟩ = some (.int .i32 xe)) (first | (go_keep; done) | (refine ⟨?_, ?_, ?_⟩; (with_reducible exact cell_keep3 cca na); (with_reducible exact cell_keep3 ccf nf); (with_reducible exact cell_keep3 cce ne)))
                    (first | (go_at_call 21; refine (run21 _ _ _ _).mono ?_; rintro e w' ⟨rfl, rfl⟩))
                  go_wp2
                  have L5 := hide (L.out.step hlt (.cells #[.int .i32 xa, .int .i32 xf, .int .i32 xe] 48) HXA.out HXF.out HXE.out)
                  go_roundw
                  case rel => exact ⟨k + 1, by omega, by go_num, L5.out⟩
                  case measure => simp [intOf]; omega
                · obtain rfl : k = n := by omega
                  have L := hide lay
                  clear lay
                  go_wp2
                  go_loopw [10] (fun v wx => ∃ s : Nat, s ≤ k ∧ v = .int .i64 s ∧ ∃ nq, wr.drewN nq = wx) (fun v _ => k - (intOf v).toNat)
                  case atStart => exact ⟨0, Nat.zero_le _, rfl, 0, rfl⟩
                  case round =>
                    obtain ⟨s, hs, rfl, nq, rfl⟩ := hrel
                    by_cases hlt : s < k
                    · go_wp2_with fail
                      refine (bend22 _ _ _ _ _ _ (fun j => wrap32 (ze.getD (s + j) 0 - zf.getD (s + j) 0)) _ ((L.out.drewN nq).runs s hs) (by omega) (fun j => rfl)).mono ?_
                      rintro e w' ⟨t, f, rfl, hbe, nq2, rfl⟩
                      obtain ⟨f1, f2, f3, f4⟩ := bend_facts hbe (by omega)
                      clear hbe
                      obtain ⟨ga, rfl, cs⟩ := owns_at L.out.a (show s < l0 by omega)
                      obtain ⟨_, e1, ct⟩ := owns_at L.out.a (show s + t - 1 < l0 by omega)
                      cases e1
                      have e2 : s + (t - 1) = s + t - 1 := by omega
                      rw [e2] at f3 f4
                      simp only [Nat.add_zero] at f4
                      obtain ⟨x1, hx1⟩ : ∃ x, x = za.getD (s + t - 1) 0 := ⟨_, rfl⟩
                      obtain ⟨x2, hx2⟩ : ∃ x, x = za.getD s 0 := ⟨_, rfl⟩
                      rw [← hx1] at ct f3 f4
                      rw [← hx2] at cs f4
                      clear hx1 hx2 e2
                      by_cases hst : s + t < k
                      · obtain ⟨_, e1, cu⟩ := owns_at L.out.a (show s + t < l0 by omega)
                        cases e1
                        obtain ⟨x3, hx3⟩ : ∃ x, x = za.getD (s + t) 0 := ⟨_, rfl⟩
                        rw [← hx3] at cu f3
                        have hb1 : (x3 == x1) = false := by
                          rcases f3 with e | e
                          · omega
                          · simpa using e
                        clear hx3 f3
                        have hsti : (s : Int) + (t : Int) < (k : Int) := by omega
                        have hdec2 : decide ((s : Int) + (t : Int) < (k : Int)) = true := by simp; omega
                        cases f
                        · go_wp2
                          go_quiet (fail)
                          go_wp2
                          go_quiet (fail)
                          go_wp2
                          go_roundw
                          case rel => exact ⟨s + t, by omega, by go_num, (by first | exact ⟨_, rfl⟩ | exact drawn2 _ _ _ | (simp only [World.drewN_drewN]; exact ⟨_, rfl⟩))⟩
                          case measure => simp [intOf]; omega
                        · have hb2 : (x2 == x1) = false := by simpa using f4 rfl
                          clear f4
                          go_wp2
                          go_quiet (fail)
                          go_wp2
                          go_quiet (fail)
                          go_wp2
                          go_roundw
                          case rel => exact ⟨s + t, by omega, by go_num, (by first | exact ⟨_, rfl⟩ | exact drawn2 _ _ _ | (simp only [World.drewN_drewN]; exact ⟨_, rfl⟩))⟩
                          case measure => simp [intOf]; omega
                      · have hdec : decide (s + t < k) = false := by simp; omega
                        have hdec2 : decide ((s : Int) + (t : Int) < (k : Int)) = false := by simp; omega
                        clear f3
                        cases f
                        · go_wp2
                          go_quiet (fail)
                          go_wp2
                          go_quiet (fail)
                          go_wp2
                          go_roundw
                          case rel => exact ⟨s + t, by omega, by go_num, (by first | exact ⟨_, rfl⟩ | exact drawn2 _ _ _ | (simp only [World.drewN_drewN]; exact ⟨_, rfl⟩))⟩
                          case measure => simp [intOf]; omega
                        · have hb2 : (x2 == x1) = false := by simpa using f4 rfl
                          clear f4
                          go_wp2
                          go_quiet (fail)
                          go_wp2
                          go_quiet (fail)
                          go_wp2
                          go_roundw
                          case rel => exact ⟨s + t, by omega, by go_num, (by first | exact ⟨_, rfl⟩ | exact drawn2 _ _ _ | (simp only [World.drewN_drewN]; exact ⟨_, rfl⟩))⟩
                          case measure => simp [intOf]; omega
                    · go_wp2
                      exact HR.out _ _ ⟨rfl, (L.out.drewN nq).below⟩
      · go_enter Try.func5, Try.ntmps5
        go_wp2_with (first
          | (go_at_call 23; refine (bytes23 _ _ _ _ _ _ _ _ _ _).mono ?_; rintro e w' ⟨b6, rfl, rfl⟩; cases b6))
        all_goals exact HR.out _ _ ⟨rfl, Below.refl _ _⟩
    · go_enter Try.func5, Try.ntmps5
      go_wp2_with (first
        | (go_at_call 23; refine (bytes23 _ _ _ _ _ _ _ _ _ _).mono ?_; rintro e w' ⟨b6, rfl, rfl⟩; cases b6))
      all_goals exact HR.out _ _ ⟨rfl, Below.refl _ _⟩
  · go_enter Try.func5, Try.ntmps5
    go_wp2_with (first
      | (go_at_call 23; refine (bytes23 _ _ _ _ _ _ _ _ _ _).mono ?_; rintro e w' ⟨b6, rfl, rfl⟩; cases b6))
    all_goals exact HR.out _ _ ⟨rfl, Below.refl _ _⟩
end Go.Proofs.Qxb6600216a
