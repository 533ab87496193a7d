import Derived.Test.Qxb6600216aMerge
import Derived.Test.Qxb6600216aTail
import Derived.Test.Qxb6600216aLay
namespace Go.Proofs.Qxb6600216a
open Go.RowKit
set_option linter.unusedVariables false

theorem sl_form {w : World} {b e n : Nat} {v : Value} {xs : List Value} (h : w.ownsRow b e 1 v n xs) : ∃ ao cap, v = .slice ao n cap := by
  rcases h.2 with ⟨rfl, rfl⟩ | ⟨g, cap, cur, rfl, r⟩
  · exact ⟨none, 0, rfl⟩
  · exact ⟨_, cap, rfl⟩

set_option maxRecDepth 100000 in
set_option maxHeartbeats 8000000 in
theorem law3 (a0 a1 a2 a3 a4 a5 : Option Addr) (l0 l1 l2 l3 l4 l5 c0 c1 c2 c3 c4 c5 : Nat) (ws ls : List Nat) (ds : List Bool) (ps sw sl : List Int) (w : World)
    (h0 : Cells w a0 l0 (ws.map fun x => .int .u64 (x : Nat))) (h1 : Cells w a1 l1 (ls.map fun x => .int .u8 (x : Nat))) (h2 : Cells w a2 l2 (ds.map .bool)) (h3 : Cells w a3 l3 (ps.map (.int .i32))) (h4 : Cells w a4 l4 (sw.map (.int .u64))) (h5 : Cells w a5 l5 (sl.map (.int .u8)))
    (m0 : l0 ≤ 9223372036854775807) (m1 : l1 ≤ 9223372036854775807) (m2 : l2 ≤ 9223372036854775807) (m3 : l3 ≤ 9223372036854775807) (m4 : l4 ≤ 9223372036854775807) (m5 : l5 ≤ 9223372036854775807)
    (r0 : ∀ j, ws.getD j 0 < 18446744073709551616) (r1 : ∀ j, ls.getD j 0 < 256) :
    Calls Try.prog 3 #[.slice a0 l0 c0, .slice a1 l1 c1, .slice a2 l2 c2, .slice a3 l3 c3, .slice a4 l4 c4, .slice a5 l5 c5] w fun e w' => e = .returned (.bool true) ∧ Below w.heap.size w w' := by
  refine hidR fun R HR => ?_
  have H0 := hide h0
  have H1 := hide h1
  have H2 := hide h2
  have H3 := hide h3
  have H4 := hide h4
  have H5 := hide h5
  have R0 := hide r0
  have R1 := hide r1
  clear h0 h1 h2 h3 h4 h5 r0 r1
  have B7 := hide (bytes7 a0 a1 a2 a3 a4 a5 l0 l1 l2 l3 l4 l5 c0 c1 c2 c3 c4 c5 w m0 m1 m2 m3 m4 m5)
  go_enter Try.func3, Try.ntmps3
  go_upto_region 3 with (first
    | (go_at_call 7; refine B7.out.mono ?_; rintro e w' ⟨b7, rfl, hb7, rfl⟩; cases b7))
  · exact HR.out _ _ ⟨rfl, Below.refl _ _⟩
  · have hsum := hb7 trivial
    clear hb7 B7
    go_upto_if 95 with fail
    · exact HR.out _ _ ⟨rfl, Below.refl _ _⟩
    · go_cut [13] from 33 (fun v wx => ∃ n : Nat, v = .int .i64 n ∧ n ≤ l0 ∧ n ≤ l1 ∧ w = wx)
      case first =>
        go_wp2
        all_goals go_meet
        case rel => exact ⟨l1, rfl, by omega, by omega, rfl⟩
        case rel => exact ⟨l0, rfl, by omega, by omega, rfl⟩
      case rest =>
        obtain ⟨n, rfl, hn0, hn1, rfl⟩ := hcut
        by_cases hz : n = 0
        · subst hz
          go_wp2
          exact HR.out _ _ ⟨rfl, Below.refl _ _⟩
        · go_upto_region 18 with (first
            | (go_at_call_of 8 a0; refine (clone8 _ _ _ _ _ H0.out (by omega)).mono ?_; rintro e w1 ⟨v0, rfl, o0, g1⟩)
            | (go_at_call_of 9 a1; refine (clone9 _ _ _ _ _ (clone_keep H1.out g1) (by omega)).mono ?_; rintro e w2 ⟨v1, rfl, o1, g2⟩)
            | (go_at_call_of 10 a2; refine (clone10 _ _ _ _ _ (clone_keep H2.out (g1.trans g2)) (by omega)).mono ?_; rintro e w3 ⟨v2, rfl, o2, g3⟩)
            | (go_at_call_of 11 a3; refine (clone11 _ _ _ _ _ (clone_keep H3.out ((g1.trans g2).trans g3)) (by omega)).mono ?_; rintro e w4 ⟨v3, rfl, o3, g4⟩)
            | (go_at_call_of 8 a4; refine (clone8 _ _ _ _ _ (clone_keep H4.out (((g1.trans g2).trans g3).trans g4)) (by omega)).mono ?_; rintro e w5 ⟨v4, rfl, o4, g5⟩)
            | (go_at_call_of 9 a5; refine (clone9 _ _ _ _ _ (clone_keep H5.out ((((g1.trans g2).trans g3).trans g4).trans g5)) (by omega)).mono ?_; rintro e w6 ⟨v5, rfl, o5, g6⟩))
          have BEL := hide (below_of_grown (((((g1.trans g2).trans g3).trans g4).trans g5).trans g6) (Nat.le_refl _))
          have S0 := hide ((sl_of (c := fun x : Nat => .int .u64 (x : Int)) (z := 0) o0).kept ((((g2.trans g3).trans g4).trans g5).trans g6))
          have S1 := hide ((sl_of (c := fun x : Nat => .int .u8 (x : Int)) (z := 0) o1).kept (((g3.trans g4).trans g5).trans g6))
          have S2 := hide ((sl_of (c := Value.bool) (z := false) o2).kept ((g4.trans g5).trans g6))
          have S3 := hide ((sl_of (c := Value.int .i32) (z := 0) o3).kept (g5.trans g6))
          have S4 := hide ((sl_of (c := Value.int .u64) (z := 0) o4).kept g6)
          have S5 := hide (sl_of (c := Value.int .u8) (z := 0) o5)
          clear o0 o1 o2 o3 o4 o5 g1 g2 g3 g4 g5 g6 H0 H1 H2 H3 H4 H5 m0 m1 m2 m3 m4 m5
          obtain ⟨g0, k0, rfl, q0⟩ := sl_cast S0.out (by omega)
          obtain ⟨g1, k1, rfl, q1⟩ := sl_cast S1.out (by omega)
          have Q0 := hide q0
          have Q1 := hide q1
          clear S0 S1 q0 q1
          obtain ⟨F, hFW, hFL, hFD, hFP⟩ : ∃ F : Flds, F.W = (fun i => ws.getD i 0) ∧ F.L = (fun i => ls.getD i 0) ∧ F.D = dpv (fun i => ds.getD i false) l2 ∧ F.P = plv (fun i => ps.getD i 0) l3 := ⟨⟨_, _, _, _⟩, rfl, rfl, rfl, rfl⟩
          have FD := hide hFD
          have FP := hide hFP
          have Q0' : Hid (∀ i, i < l0 → w6.cell? ⟨g0, i, none⟩ = some (.int .u64 (F.W i : Nat))) := by rw [hFW]; exact Q0.out
          have Q1' : Hid (∀ i, i < l1 → w6.cell? ⟨g1, i, none⟩ = some (.int .u8 (F.L i : Nat))) := by rw [hFL]; exact Q1.out
          have FOK : Hid (F.Ok n) := ⟨fun q _ => by rw [hFW]; exact R0.out q, fun q _ => by rw [hFL]; exact R1.out q⟩
          clear Q0 Q1 hFW hFL hFD hFP R0 R1
          have hn20 : n ≤ 1048576 := by omega
          have hmk := make31 n hn20
          go_upto_region 21 with fail
          clear hmk
          have ST0 := hide (sst_new w6 n F)
          generalize (w6.alloc (.cells (ZE n) 34)).alloc (.cells (ZE n) 34) = v6 at *
          clear w1 w2 w3 w4 w5
          go_loopw [16] (fun v wr => ∃ k : Nat, k ≤ n ∧ v = .int .i64 k ∧ Sst w6 wr n F (fun p => p < k)) (fun v _ => n - (intOf v).toNat)
          case atStart => exact ⟨0, Nat.zero_le _, rfl, ST0.out⟩
          case round =>
            obtain ⟨k, hk, rfl, st⟩ := hrel
            clear ST0
            by_cases hlt : k < n
            · have hc0 := rows_below Q0'.out st.bel k (by omega)
              have hc1 := rows_below Q1'.out st.bel k (by omega)
              have hg0 := World.block_lt_of_cell? w6 _ (Q0'.out k (by omega))
              have hg1 := World.block_lt_of_cell? w6 _ (Q1'.out k (by omega))
              have hg0e : g0 ≠ w6.heap.size := by simp only at hg0; omega
              have hg1e : g1 ≠ w6.heap.size := by simp only at hg1; omega
              obtain ⟨hfz, hel, u0, u1, u2, u3, hu0, hu1, hu2, hu3⟩ := st.e.free hlt
              have hf0 := hfz (k * 4)
              have hf1 := hfz (k * 4 + 1)
              have hf2 := hfz (k * 4 + 2)
              have hf3 := hfz (k * 4 + 3)
              have C13 : Hid (Calls Try.prog 13 #[v2, .int .i64 (k : Int)] wr.drew fun e w' => e = .returned (.bool (F.D k)) ∧ wr.drew = w') := by rw [FD.out]; exact deep13 v2 l2 _ k wr.drew (sl_below S2.out st.bel.drew) (by omega) (by omega)
              have C14 : Hid (Calls Try.prog 14 #[v3, .int .i64 (k : Int)] wr.drew fun e w' => e = .returned (.int .i32 (F.P k)) ∧ wr.drew = w') := by rw [FP.out]; exact place14 v3 l3 _ k wr.drew (sl_below S3.out st.bel.drew) (by omega) (by omega)
              have LAY := hide (fun o => st.lay hlt o rfl rfl rfl rfl)
              have ib0 : (k : Int) < (l0 : Int) := by omega
              have ib1 : (k : Int) < (l1 : Int) := by omega
              have ib2 : (k : Int) < (n : Int) := by omega
              clear hfz hg0 hg1 st
              go_upto_region 23 with fail
              go_region_held3 (fun w' => w'.cell? ⟨g0, k, none⟩ = some (.int .u64 (F.W k : Nat)) ∧ w'.cell? ⟨g1, k, none⟩ = some (.int .u8 (F.L k : Nat))) (first | (go_keep; done) | (refine ⟨?_, ?_⟩; (with_reducible exact cell_keep4a hc0 hg0e); (with_reducible exact cell_keep4a hc1 hg1e)))
                (first
                  | (go_at_call 13; refine C13.out.mono ?_; rintro e w' ⟨rfl, rfl⟩)
                  | (go_at_call 14; refine C14.out.mono ?_; rintro e w' ⟨rfl, rfl⟩)
                  | (go_at_call 12; refine (make12' _ _ _ _ _).mono ?_; rintro e w' ⟨rfl, rfl⟩))
              have ST1 := hide (LAY.out (.cells #[.int .u64 (F.W k : Nat), .int .u8 (F.L k : Nat), .bool (F.D k), .int .i32 (F.P k)] 34))
              clear LAY C13 C14 hc0 hc1 hu0 hu1 hu2 hu3 hf0 hf1 hf2 hf3 hel
              generalize (((((wr.setCell ⟨w6.heap.size, k * 4, none⟩ (.int .u64 (F.W k : Nat))).setCell ⟨w6.heap.size, k * 4 + 1, none⟩ (.int .u8 (F.L k : Nat))).setCell ⟨w6.heap.size, k * 4 + 2, none⟩ (.bool (F.D k))).setCell ⟨w6.heap.size, k * 4 + 3, none⟩ (.int .i32 (F.P k))).alloc (.cells #[.int .u64 (F.W k : Nat), .int .u8 (F.L k : Nat), .bool (F.D k), .int .i32 (F.P k)] 34)).drew = v23 at *
              obtain ⟨hfz, hel, t0, t1, t2, t3, hu0, hu1, hu2, hu3⟩ := ST1.out.s.free hlt
              have hf0 := hfz (k * 4)
              have hf1 := hfz (k * 4 + 1)
              have hf2 := hfz (k * 4 + 2)
              have hf3 := hfz (k * 4 + 3)
              have C15 := hide (word15 v4 l4 _ k v23 (sl_below S4.out ST1.out.bel) (by omega) (by omega))
              have C16 := hide (left16 v5 l5 _ k v23 (sl_below S5.out ST1.out.bel) (by omega) (by omega))
              have L2 := hide (fun o x0 x1 x2 x3 => ST1.out.lay2 hlt o x0 x1 x2 x3)
              clear hfz ST1
              go_wp2_with (first
                | (go_at_call 15; refine C15.out.mono ?_; rintro e w' ⟨x15, rfl, rfl⟩)
                | (go_at_call 16; refine C16.out.mono ?_; rintro e w' ⟨x16, rfl, rfl⟩)
                | (go_at_call 12; refine (make12' _ _ _ _ _).mono ?_; rintro e w' ⟨rfl, rfl⟩))
              go_roundw
              case rel => first
                | exact ⟨k + 1, by omega, by go_num, L2.out _ _ _ _ _⟩
                | (refine ⟨_, _, _, _, _, _, _, _, _, _, _, _, _, _, _, _, _, _, _, _, _, _, _, _, _, _, _, _, _, _, _, _, _, _, _, _, _, ?_, rfl⟩; exact ⟨k + 1, by omega, by go_num, L2.out _ _ _ _ _⟩)
              case measure => simp [intOf]; omega
            · obtain rfl : n = k := by omega
              have hsl := st.s.lt
              have T0 := hide (show Sst w6 wr n F (fun _ => True) from ⟨st.e.weak fun p hp _ => ⟨hp, rfl⟩, st.s, st.bel⟩)
              have hmk := run_make_row' (P := Try.prog) 40 3 (.int .i64 0) 8 Try.underlying40 info3 rfl .i64 .i64 n (by omega) (by omega)
              clear st S4 S5 hk hlt
              go_upto_region 28 with fail
              clear hmk
              have GA := World.grownBy_alloc wr (.cells (madeCells #[.int .i64 0] n) 3) none
              have GB := World.grownBy_alloc (wr.alloc (.cells (madeCells #[.int .i64 0] n) 3)) (.cells (madeCells #[.int .i64 0] n) 3) none
              have O0 := hide ((ord_new wr n (bk F.K n 1)).more GB)
              have O1 := hide (ord_new (wr.alloc (.cells (madeCells #[.int .i64 0] n) 3)) n (bk F.K n 1))
              rw [show (wr.alloc (.cells (madeCells #[.int .i64 0] n) 3)).heap.size = wr.heap.size + 1 by simp] at O1
              have T1 := hide (T0.out.more (GA.trans GB))
              clear GA GB T0
              generalize (wr.alloc (.cells (madeCells #[.int .i64 0] n) 3)).alloc (.cells (madeCells #[.int .i64 0] n) 3) = v7 at *
              obtain ⟨ob, hob⟩ : ∃ ob, ob = wr.heap.size := ⟨_, rfl⟩
              rw [← hob] at O0 O1 hsl
              rw [← hob]
              obtain ⟨tb, htb⟩ : ∃ tb, tb = ob + 1 := ⟨_, rfl⟩
              rw [← htb] at O1
              rw [← htb]
              have hts : w6.heap.size + 1 < tb := by omega
              have hot : ob ≠ tb := by omega
              clear hob htb
              go_loopw [19] (fun v wj => ∃ k : Nat, k ≤ n ∧ v = .int .i64 k ∧ Sst w6 wj n F (fun _ => True) ∧ Ord wj ob n (fun p => p < k) (bk F.K n 1) ∧ Ord wj tb n (fun p => p < 0) (bk F.K n 1)) (fun v _ => n - (intOf v).toNat)
              case atStart => exact ⟨0, Nat.zero_le _, rfl, T1.out, O0.out, O1.out⟩
              case round =>
                obtain ⟨k, hk, rfl, st, o1, o2⟩ := hrel
                clear T1 O0 O1
                by_cases hlt : k < n
                · obtain ⟨hfz, t0, ht0⟩ := o1.free hlt
                  have N1 := hide (st.set (k := k) hsl (.int .i64 (k : Int)))
                  have N2 := hide (o1.put (k : Int) (by rw [bk_one F.K hlt]))
                  have N3 := hide (o2.setOther (a := ⟨ob, k, none⟩) (by simp only; omega) (.int .i64 (k : Int)))
                  clear st o1 o2
                  go_wp2
                  go_roundw
                  case rel => exact ⟨k + 1, by omega, by go_num, N1.out, N2.out, N3.out⟩
                  case measure => simp [intOf]; omega
                · obtain rfl : n = k := by omega
                  have T1 := hide st
                  have O0 := hide (o1.weak (S' := fun _ => True) (o' := bk F.K n 1) fun p hp _ => ⟨hp, rfl⟩)
                  have O1 := hide o2
                  clear st o1 o2 hk hlt
                  clear hsum
                  go_upto_block 4 with fail
                  refine merge31 g0 k0 l0 g1 k1 l1 n ob tb F w6 wr _ _ _ _ _ _ _ _ _ _ _ _ _ _ _ _ _ _ _ _ _ _ _ _ _ _ _ _ _ _ _ _ _ _ _ _ _ _ _ _ _ _ _ _ _ _ _ _ _ _ _ _ _ _ _ _ _ _ _ _ _ _ _ _ _ _ _ _ _ _ _ _ _ _ _ _ _ _ _ _ _ _ _ _ _ _ _ _ _ _ _ _ _ _ _ _ _ _ _ _ _ _ _ _ _ _ _ _ _ _ _ _ _ _ _ _ _ _ _ _ _ _ _ _ _ _ _ _ _ _ _ _ _ _ _ _ _ _ _ _ _ _ _ _ _ _ _ _ _ _ _ _ _ _ _ _ _ _ _ _ _ _ _ _ _ _ _ _ _ _ _ _ _ _ _ _ _ _ _ _ _ _ _ _ _ _ _ _ _ _ _ _ _ _ _ _ _ _ _ _ _ _ _ _ _ _ _ _ _ _ _ _ _ _ _ _ _ _ _ _ _ _ _ _ _ _ _ _ _ _ _ _ _ _ _ _ _ _ _ _ _ _ _ _ _ _ _ _ _ _ _ _ _ _ _ _ _ _ _ _ _ _ _ _ _ _ _ _ _ _ _ _ _ _ _ _ _ _ _ _ _ _ _ _ _ _ _ _ _ _ _ _ _ _ _ _ _ _ _ _ _ _ _ _ _ _ _ _ Q0' Q1' FOK (by omega) (by omega) hn0 hn1 hn20 hsl hts hot T1 O0 O1 (hide ?_)
                  intro ob' tb' y20 y21 y22 y23 y24 y25 y26 y165 y166 y167 y168 y169 y170 y171 y172 y173 y174 y175 y176 y177 y178 y179 y180 y181 y182 y183 y184 y185 y186 y187 y188 y189 y190 y191 y192 y193 y194 y195 y196 y197 y198 y199 y200 y201 y202 y203 y204 y205 y206 y207 y208 y209 y210 y211 y212 y213 y214 y215 y216 y217 y218 y219 y220 y221 y222 y223 y224 y225 y226 y227 y228 y229 y230 y231 y232 y233 y234 y235 y236 y237 y238 y239 y240 y241 y242 y243 y244 y245 y246 y247 y248 y249 y250 y251 y252 y253 y254 y255 y256 y257 y258 y259 y260 y261 y262 wj hos st o1
                  have T2 := hide st
                  have O2 := hide o1
                  clear st o1 T1 O0 O1
                  show Exit.then _ _ Exit.normal _ _
                  apply_assumption
                  refine tail60 g0 k0 l0 g1 k1 l1 l2 l3 n ob' F _ _ w6 wj _ _ _ _ _ _ _ _ _ _ _ _ _ _ _ _ _ _ _ _ _ _ _ _ _ _ _ _ _ _ _ _ _ _ _ _ _ _ _ _ _ _ _ _ _ _ _ _ _ _ _ _ _ _ _ _ _ _ _ _ _ _ _ _ _ _ _ _ _ _ _ _ _ _ _ _ _ _ _ _ _ _ _ _ _ _ _ _ _ _ _ _ _ _ _ _ _ _ _ _ _ _ _ _ _ _ _ _ _ _ _ _ _ _ _ _ _ _ _ _ _ _ _ _ _ _ _ _ _ _ _ _ _ _ _ _ _ _ _ _ _ _ _ _ _ _ _ _ _ _ _ _ _ _ _ _ _ _ _ _ _ _ _ _ _ _ _ _ _ _ _ _ _ _ _ _ _ _ _ _ _ _ _ _ _ _ _ _ _ _ _ _ _ _ _ _ _ _ _ _ _ _ _ _ _ _ _ _ _ _ _ _ _ _ _ _ _ _ _ _ _ _ _ _ _ _ _ _ _ _ _ _ _ _ _ _ _ _ _ _ _ _ _ _ _ _ _ _ _ _ _ _ _ _ _ _ _ _ _ _ _ _ _ _ _ _ _ _ _ _ _ _ _ _ _ _ _ _ _ _ _ _ _ _ _ _ _ _ _ _ _ _ _ _ _ _ _ _ _ _ _ _ _ _ _ _ _ _ Q0' Q1' FOK S2 S3 FD FP (by omega) (by omega) hn0 hn1 hn20 (by omega) hos T2 O2 (hide ?_)
                  intro z27 z28 z29 z30 z31 z32 z263 z264 z265 z266 z267 z268 z269 z270 z271 z272 z273 z274 z275 z276 z277 z278 z279 z280 z281 z282 z283 z284 z285 z286 z287 z288 z289 z290 z291 z292 z293 z294 z295 z296 z297 z298 z299 z300 z301 z302 z303 z304 z305 z306 z307 z308 z309 z310 z311 z312 wz hb
                  refine bodyPost_ret (v := .bool true) (by simp [results, Try.results3, go_sem]) rfl ?_
                  exact HR.out _ _ ⟨rfl, BEL.out.trans (hb.mono BEL.out.size)⟩
end Go.Proofs.Qxb6600216a
