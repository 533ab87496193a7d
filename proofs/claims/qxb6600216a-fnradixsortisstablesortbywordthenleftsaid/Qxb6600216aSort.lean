import Derived.Test.Qxb6600216aWide
import Derived.Lib.Builder
namespace Go.Proofs.Qxb6600216a
open Go.RowKit
set_option linter.unusedVariables false

theorem Mid.drew {w wr : World} {be bs n C d Fb Gb : Nat} {F : Flds} {h : Nat → Int} {S : Nat → Prop} (m : Mid w wr be bs n C F d Fb Gb h S) : Mid w wr.drew be bs n C F d Fb Gb h S := m.more (drew_grown (World.grownBy.refl wr _))
theorem Pass.drewN {w wr : World} {be bs n C d Fb Gb : Nat} {F : Flds} (m : Pass w wr be bs n C F d Fb Gb) (k : Nat) : Pass w (wr.drewN k) be bs n C F d Fb Gb :=
  have g' : wr.grownBy (wr.drewN k) none := grown_drew (World.grownBy.refl wr none) k
  ⟨m.fro.more g', m.til.more g', m.cts.more g', m.fr.more g', m.two⟩
theorem Pass.fin {w wr : World} {be bs n C d Fb Gb : Nat} {F : Flds} {o : Nat → Nat} (m : Pass w wr be bs n C F d Fb Gb) (e1 : Fb = bs) (e2 : Gb = be) (ho : ∀ p, od (fd F.K d) n p = o p) (hne : be ≠ bs) :
    ∃ (cur : Array Value) (cs : List Value), wr.heap[Gb]? = some (.cells cur 34 (0, 0)) ∧ cs.length = n * 4 ∧ cur.size = n * 4 ∧ (∀ j v, cs[j]? = some v → wr.cell? ((⟨Fb, 0, none⟩ : Addr).add j) = some v) ∧ (∀ v ∈ cs, v.oneCell' = true) ∧
      Ent (wr.setRow Gb cs.toArray) Gb n F (fun _ => True) o ∧ Fr w (wr.setRow Gb cs.toArray) Gb Fb := by
  subst e1 e2
  obtain ⟨cur, cs, h1, h2, h3, h4, h5, h6, h7⟩ := m.src hne
  exact ⟨cur, cs, h1, h2, h3, h4, h5, h6.weak fun p _ _ => ⟨trivial, ho p⟩, h7⟩
theorem run_neq_ptr_other {P : Program} (w : World) {tp te : TypeId} {j : TypeInfo} {a b : Addr} {ca cb : Array Value} {ta tb : TypeId} (hp : P.underlying tp = some (.pointer te)) (hte : P.info? te = some j) (hsz : j.size ≠ 0)
    (hne : a ≠ b) (ha : w.heap[a.block]? = some (.cells ca ta (0, 0))) (hb : w.heap[b.block]? = some (.cells cb tb (0, 0))) :
    (binOp .neq tp (.pointer (some a)) (.pointer (some b))).run P w = .ok (.bool true) w := by
  have h : ∀ d : Nat, (Op.equalIn (d + 1) tp (.pointer (some a)) (.pointer (some b))).run P w = .ok false w := fun d => by
    simp [Op.equalIn, run_underlying hp, sizeOf, typeInfo, hte, hsz, run_sameAddr_other w hne ha hb]
  simp only [binOp]
  simp [Op.equal, Op.maxDepth, h 9999]
theorem neq_same (b : Nat) (w : World) : (binOp .neq 73 (.pointer (some ⟨b, 0, none⟩)) (.pointer (some ⟨b, 0, none⟩))).run Try.prog w = .ok (.bool false) w := by
  obtain ⟨j, hj, _⟩ := Option.map_eq_some_iff.1 size34
  exact Lib.run_neq_ptr_same w _ Try.underlying73 hj
theorem neq_other {w : World} {b c n : Nat} {F F' : Flds} {S S' : Nat → Prop} {o o' : Nat → Nat} (hne : c ≠ b) (h : Ent w b n F S o) (h' : Ent w c n F' S' o') (k : Nat) : (binOp .neq 73 (.pointer (some ⟨b, 0, none⟩)) (.pointer (some ⟨c, 0, none⟩))).run Try.prog (w.drewN k) = .ok (.bool true) (w.drewN k) := by
  obtain ⟨j, hj, hs⟩ := Option.map_eq_some_iff.1 size34
  obtain ⟨g, ⟨x, hx, _⟩, _⟩ := h
  obtain ⟨g', ⟨x', hx', _⟩, _⟩ := h'
  exact run_neq_ptr_other (w.drewN k) Try.underlying73 hj (by omega) (by intro e; cases e; exact hne rfl) hx hx'
theorem cell_keep4 {w : World} {G b k i0 i1 i2 i3 : Nat} {u v0 v1 v2 v3 : Value} (h : w.cell? ⟨b, k, none⟩ = some u) (hn : b ≠ G) :
    ((((w.setCell ⟨G, i0, none⟩ v0).setCell ⟨G, i1, none⟩ v1).setCell ⟨G, i2, none⟩ v2).setCell ⟨G, i3, none⟩ v3).drew.cell? ⟨b, k, none⟩ = some u :=
  cell_set_far (cell_set_far (cell_set_far (cell_set_far h hn) hn) hn) hn

set_option maxRecDepth 100000 in
set_option maxHeartbeats 2000000 in
theorem sort32 (be bs n : Nat) (F : Flds) (w : World) (hn : n ≤ 1048576) (h0 : 0 < n) (hF : F.Ok n) (he : Ent w be n F (fun _ => True) (fun p => p)) (hs : Ent w bs n F (fun _ => False) (fun p => p)) (hne : be ≠ bs) :
    Calls Try.prog 32 #[.slice (some ⟨be, 0, none⟩) n n, .slice (some ⟨bs, 0, none⟩) n n] w fun e w' => e = .returned (.tuple #[]) ∧ Ent w' be n F (fun _ => True) (od F.K n) ∧ Fr w w' be bs := by
  refine hidR fun R HR => ?_
  have hz := zero70
  have C0 := hide (counts_new F w)
  have G0 := hide (World.grownBy_alloc w (.cells Z70 70) none)
  have HE := hide he
  have HS := hide hs
  have HF := hide hF
  have hbl := he.lt
  have hsl := hs.lt
  clear he hs hF
  go_enter Try.func32, Try.ntmps32
  go_upto_region 2 with fail
  clear hz
  obtain ⟨C, hC⟩ : ∃ C, C = w.heap.size := ⟨_, rfl⟩
  generalize w.alloc (.cells Z70 70) = v1 at *
  rw [← hC] at C0
  rw [← hC]
  have hbC : be < C := by omega
  have hsC : bs < C := by omega
  have HC := hide hC
  clear hC hbl hsl
  go_loopw [20] (fun j wj => ∃ (m : Nat), j = .int .i64 m ∧ m ≤ n ∧ wj.rowIs C 70 2304 (fun x => .int .i64 (ctv F m 0 x)) ∧ w.grownBy wj none) (fun j _ => n - (intOf j).toNat)
  case atStart => exact ⟨0, rfl, Nat.zero_le _, C0.out, G0.out⟩
  case round =>
    obtain ⟨m, rfl, hmn, hrow, hgr⟩ := hrel
    clear C0 G0
    by_cases hlt : m < n
    · obtain ⟨hc0, hc1, hc2, hc3⟩ := (HE.out.more hgr).cells hlt trivial
      have FR := hide (fun o => hgr.trans (World.grownBy_alloc wr o none))
      have RW := hide (fun o => hrow.alloc o)
      have hCl := hrow.lt
      clear hrow hgr
      have BX := hide (Box.new wr F m)
      have hnew : wr.heap.size ≠ C := by omega
      go_upto_region 5 with fail
      have FR' := hide (FR.out (.cells #[.int .u64 (F.W m : Nat), .int .u8 (F.L m : Nat), .bool (F.D m), .int .i32 (F.P m)] 34))
      have RW' := hide (RW.out (.cells #[.int .u64 (F.W m : Nat), .int .u8 (F.L m : Nat), .bool (F.D m), .int .i32 (F.P m)] 34))
      clear FR RW hc0 hc1 hc2 hc3
      generalize wr.alloc (.cells #[.int .u64 (F.W m : Nat), .int .u8 (F.L m : Nat), .bool (F.D m), .int .i32 (F.P m)] 34) = v2 at *
      obtain ⟨eb, heb⟩ : ∃ eb, eb = wr.heap.size := ⟨_, rfl⟩
      rw [← heb] at BX hnew
      rw [← heb]
      clear heb hCl
      go_loopw [24] (fun j wj => ∃ (d : Nat), j = .int .i64 d ∧ d ≤ 9 ∧ wj.rowIs C 70 2304 (fun x => .int .i64 (ctv F m d x)) ∧ w.grownBy wj none ∧ Box wj eb F m) (fun j _ => 9 - (intOf j).toNat)
      case atStart => exact ⟨0, rfl, Nat.zero_le _, RW'.out, FR'.out, BX.out⟩
      case round =>
        obtain ⟨d, rfl, hd9, hrow, hgr, hbx⟩ := hrel
        clear RW' FR' BX
        by_cases hd : d < 9
        · have hv := dg_lt F.K d m
          have ROW := hide hrow
          have GR := hide hgr
          have hcell := hrow.cell (i := d * 256 + dg F.K d m) (by omega)
          have hfz := hrow.frozen (d * 256 + dg F.K d m)
          simp only [ctv_at F m d _ hv] at hcell
          have hk := ctv_nn F m d (dg F.K d m)
          have hk0 : (0 : Int) ≤ (cnt F.K d m (dg F.K d m) : Nat) := by omega
          have DG := hide (fun w => digit36 (F.W m) (F.L m) (F.D m) (F.P m) d w (HF.out.w m hlt) (HF.out.l m hlt) hd)
          simp only [dg_key] at DG
          obtain ⟨v, hvv⟩ : ∃ v, v = dg F.K d m := ⟨_, rfl⟩
          obtain ⟨k, hkk⟩ : ∃ k, k = (cnt F.K d m (dg F.K d m) : Int) := ⟨_, rfl⟩
          rw [← hkk] at hcell hk hk0
          rw [← hvv] at hcell hfz hv DG
          have HV := hide hvv
          have HK := hide hkk
          clear hvv hkk hrow hgr
          have hi1 : (d : Int) < 9 := by omega
          have hi2 : (v : Int) < 256 := by omega
          obtain ⟨q0, q1, q2, q3⟩ := hbx
          have hwr : IntKind.i64.wrap (k + 1) = k + 1 := by rw [IntKind.wrap_i64]; omega
          go_upto_region 7 with fail
          go_region_with (first | (go_at_call 36; refine (DG.out _).mono ?_; rintro e w5 ⟨rfl, g5⟩; have hB5 := Box.kept (F := F) (q := m) (b := eb) g5 ⟨q0, q1, q2, q3⟩; have hc5 := cell_grown g5 hcell; have hf5 := frozen_grown g5 hfz hcell))
          have NX := hide (ctv_next ROW.out g5 HV.out HK.out)
          have GN := hide (grown_set (k := d * 256 + v) (v := .int .i64 (k + 1)) ((drew_grown GR.out).trans g5) (Nat.le_of_eq HC.out.symm))
          have BN := hide (Box.set (k := d * 256 + v) (v := .int .i64 (k + 1)) hnew hB5)
          clear g5 hB5 hc5 hf5 ROW GR q0 q1 q2 q3 hcell hfz DG HV HK
          go_wp2
          go_roundw
          case rel => exact ⟨d + 1, by go_num, by omega, NX.out, GN.out, BN.out⟩
          case measure => simp [intOf]; omega
        · obtain rfl : d = 9 := by omega
          have RN := hide (hrow.congr (g := fun x => .int .i64 (ctv F (m + 1) 0 x)) (fun x hx => by rw [ctv_all F m x hx]))
          have GN := hide hgr
          clear hrow hgr hbx
          go_wp2
          go_roundw
          case rel => exact ⟨m + 1, by go_num, by omega, RN.out, GN.out⟩
          case measure => simp [intOf]; omega
    · obtain rfl : n = m := by omega
      have P0 := hide (show Pass w wr be bs n C F 0 be bs from ⟨(HE.out.more hgr).weak fun p hp _ => ⟨trivial, (od_first F.K hp).symm⟩, HS.out.more hgr, Ctr.first hrow, Fr.of_grown hgr be bs, .inl ⟨rfl, rfl⟩⟩)
      clear hrow hgr HE HS hmn hlt
      go_upto_region 12 with fail
      go_loopw [8, 9, 41] (fun a b j wj => ∃ (Fb Gb d : Nat), a = .slice (some ⟨Fb, 0, none⟩) n n ∧ b = .slice (some ⟨Gb, 0, none⟩) n n ∧ j = .int .i64 d ∧ d ≤ 9 ∧ Pass w wj be bs n C F d Fb Gb) (fun _ _ j _ => 9 - (intOf j).toNat)
      case atStart => exact ⟨be, bs, 0, rfl, rfl, rfl, Nat.zero_le _, P0.out⟩
      case round =>
        obtain ⟨Fb, Gb, d, rfl, rfl, rfl, hd9, ps⟩ := hrel
        clear P0
        by_cases hd : d < 9
        · have hq0 := od_lt (fd F.K d) h0
          obtain ⟨q, hq⟩ : ∃ q, q = od (fd F.K d) n 0 := ⟨_, rfl⟩
          have hc := ps.fro.cells h0 trivial
          rw [← hq] at hc hq0
          simp only [Nat.zero_mul, Nat.zero_add] at hc
          obtain ⟨c0, c1, c2, c3⟩ := hc
          have DG := hide (fun w => digit36 (F.W q) (F.L q) (F.D q) (F.P q) d w (HF.out.w q hq0) (HF.out.l q hq0) hd)
          simp only [dg_key] at DG
          obtain ⟨v, hv⟩ : ∃ v, v = dg F.K d q := ⟨_, rfl⟩
          have hv256 : v < 256 := by rw [hv]; exact dg_lt _ _ _
          rw [← hv] at DG
          have hcc := ((ps.cts.at hd).cell hd hv256).1
          have hcn := cnt_le F.K d n v
          have PS := hide ps
          obtain ⟨k, hk⟩ : ∃ k, k = cnt F.K d n v := ⟨_, rfl⟩
          simp only [← hk] at hcc
          rw [← hk] at hcn
          have HK := hide hk
          have hi1 : (d : Int) < 9 := by omega
          have hi2 : (v : Int) < 256 := by omega
          have hi3 : (0 : Int) < (n : Int) := by omega
          clear hq hv hk ps
          go_upto_region 15 with fail
          by_cases hkn : k = n
          · have hb : ((k : Int) == (n : Int)) = true := by rw [beq_iff_eq]; omega
            go_region_with (first | (go_at_call 36; refine (DG.out _).mono ?_; rintro e w5 ⟨rfl, g5⟩; have hc5 := cell_grown g5 hcc))
            have NX := hide (PS.out.skip g5 (HK.out.symm.trans hkn))
            clear g5 hc5 PS DG c0 c1 c2 c3 hcc HK
            go_wp2
            go_roundw
            case rel => exact ⟨Fb, Gb, d + 1, rfl, rfl, by go_num, by omega, NX.out⟩
            case measure => simp [intOf]; omega
          · have hb : ((k : Int) == (n : Int)) = false := by rw [beq_eq_false_iff_ne]; omega
            go_region_with (first | (go_at_call 36; refine (DG.out _).mono ?_; rintro e w5 ⟨rfl, g5⟩; have hc5 := cell_grown g5 hcc))
            have M0 := hide (PS.out.mid g5 hd)
            clear g5 hc5 PS DG c0 c1 c2 c3 hcc HK
            go_upto_region 18 with fail
            go_loopw [12, 59] (fun x j wj => ∃ (v : Nat), x = .int .i64 (stv F.K d n v : Nat) ∧ j = .int .i64 v ∧ v ≤ 256 ∧ Mid w wj be bs n C F d Fb Gb (fun u => if u < v then (stv F.K d n u : Nat) else (cnt F.K d n u : Nat)) (fun _ => False)) (fun _ j _ => 256 - (intOf j).toNat)
            case atStart => exact ⟨0, by rw [stv_zero]; rfl, rfl, Nat.zero_le _, M0.out⟩
            case round =>
              obtain ⟨u, rfl, rfl, hu256, mid⟩ := hrel
              clear M0
              by_cases hu : u < 256
              · obtain ⟨hcu, hfu⟩ := mid.cts.cell hd hu
                simp only [Nat.lt_irrefl, if_false] at hcu
                have hs1 := stv_le F.K d n u
                have hs2 := cnt_le F.K d n u
                have SS := hide (stv_succ F.K d n u)
                have NX := hide (fun k => (mid.drewN k).start hbC hsC HC.out hu)
                obtain ⟨s0, hs0⟩ : ∃ s0, s0 = stv F.K d n u := ⟨_, rfl⟩
                obtain ⟨c0, hc0⟩ : ∃ c0, c0 = cnt F.K d n u := ⟨_, rfl⟩
                rw [← hc0] at hs2 SS hcu
                rw [← hs0] at hs1 SS NX
                rw [← hs0]
                clear hs0 hc0 mid
                have hi4 : (u : Int) < 256 := by omega
                have hwr : IntKind.i64.wrap ((s0 : Int) + (c0 : Int)) = (s0 : Int) + (c0 : Int) := by rw [IntKind.wrap_i64]; omega
                go_wp2
                go_quiet (fail)
                go_wp2
                go_roundw
                case rel => exact ⟨u + 1, by rw [SS.out]; rfl, by go_num, by omega, NX.out _⟩
                case measure => simp [intOf]; omega
              · obtain rfl : u = 256 := by omega
                have M1 := hide mid.move.fresh
                clear mid
                go_upto_region 24 with fail
                go_loopw [76] (fun j wj => ∃ (m : Nat), j = .int .i64 m ∧ m ≤ n ∧ Mid w wj be bs n C F d Fb Gb (fun u => ((stv F.K d n u + cpv F.K d n m u : Nat) : Int)) (Moved F d n m)) (fun j _ => n - (intOf j).toNat)
                case atStart => exact ⟨0, rfl, Nat.zero_le _, M1.out⟩
                case round =>
                  obtain ⟨m, rfl, hmn, mid⟩ := hrel
                  clear M1
                  by_cases hm : m < n
                  · obtain ⟨q, hq⟩ : ∃ q, q = od (fd F.K d) n m := ⟨_, rfl⟩
                    have hqn : q < n := by rw [hq]; exact od_lt _ hm
                    have hc := mid.fro.cells hm trivial
                    rw [← hq] at hc
                    obtain ⟨c0, c1, c2, c3⟩ := hc
                    have DG := hide (fun w => digit36 (F.W q) (F.L q) (F.D q) (F.P q) d w (HF.out.w q hqn) (HF.out.l q hqn) hd)
                    simp only [dg_key] at DG
                    obtain ⟨v, hv⟩ : ∃ v, v = dg F.K d q := ⟨_, rfl⟩
                    have hv256 : v < 256 := by rw [hv]; exact dg_lt _ _ _
                    have hpl := place_next F.K d hm
                    rw [← hq, ← hv] at hpl
                    rw [← hv] at DG
                    obtain ⟨r, hr⟩ : ∃ r, r = Rk (fd F.K (d + 1)) n q := ⟨_, rfl⟩
                    have hrn : r < n := by rw [hr]; exact Rk_lt _ hqn
                    rw [← hr] at hpl
                    have MID := hide (mid.more (World.grownBy_alloc wr (.cells #[.int .u64 (F.W q : Nat), .int .u8 (F.L q : Nat), .bool (F.D q), .int .i32 (F.P q)] 34) none))
                    have BX := hide (Box.new wr F q)
                    have hGl := mid.til.lt
                    have hCl := mid.cts.lt
                    have HQ := hide hq
                    have HV := hide hv
                    have HR0 := hide hr
                    have HPL := hide hpl
                    clear mid hq hv hr hpl
                    go_wp2_with (go_at_call 36; refine (DG.out _).mono ?_; rintro e w5 ⟨rfl, g5⟩)
                    have M5 := hide (MID.out.more g5)
                    obtain ⟨q0, q1, q2, q3⟩ := Box.kept g5 BX.out
                    obtain ⟨hcc, hfc⟩ := M5.out.cts.cell hd hv256
                    simp only [HPL.out] at hcc
                    obtain ⟨hfz, hGl5, u0, u1, u2, u3, hu0, hu1, hu2, hu3⟩ := M5.out.til.free hrn
                    have hf0 := hfz (r * 4)
                    have hf1 := hfz (r * 4 + 1)
                    have hf2 := hfz (r * 4 + 2)
                    have hf3 := hfz (r * 4 + 3)
                    obtain ⟨eb, heb⟩ : ∃ eb, eb = wr.heap.size := ⟨_, rfl⟩
                    rw [← heb] at q0 q1 q2 q3 hGl hCl
                    rw [← heb]
                    have heG : eb ≠ Gb := by omega
                    have hCG : C ≠ Gb := by rcases M5.out.two with ⟨e1, e2⟩ | ⟨e1, e2⟩ <;> omega
                    have hi4 : (v : Int) < 256 := by omega
                    have hi5 : (r : Int) < (n : Int) := by omega
                    clear heb hfz g5 MID BX DG c0 c1 c2 c3 hGl hCl
                    go_region_held3 (fun w' => w'.cell? ⟨C, d * 256 + v, none⟩ = some (.int .i64 (r : Nat)) ∧ w'.cell? ⟨eb, 0, none⟩ = some (.int .u64 (F.W q : Nat)) ∧ w'.cell? ⟨eb, 1, none⟩ = some (.int .u8 (F.L q : Nat)) ∧ w'.cell? ⟨eb, 2, none⟩ = some (.bool (F.D q)) ∧ w'.cell? ⟨eb, 3, none⟩ = some (.int .i32 (F.P q))) (first | (go_keep; done) | (refine ⟨?_, ?_, ?_, ?_, ?_⟩; (with_reducible exact cell_keep4 hcc hCG); (with_reducible exact cell_keep4 q0 heG); (with_reducible exact cell_keep4 q1 heG); (with_reducible exact cell_keep4 q2 heG); (with_reducible exact cell_keep4 q3 heG)))
                      (fail)
                    have M6 := hide (M5.out.put hbC hsC hne hm HQ.out HR0.out).drew
                    clear M5 hcc hfc hu0 hu1 hu2 hu3 hf0 hf1 hf2 hf3 q0 q1 q2 q3
                    generalize ((((w5.setCell ⟨Gb, r * 4, none⟩ (.int .u64 (F.W q : Nat))).setCell ⟨Gb, r * 4 + 1, none⟩ (.int .u8 (F.L q : Nat))).setCell ⟨Gb, r * 4 + 2, none⟩ (.bool (F.D q))).setCell ⟨Gb, r * 4 + 3, none⟩ (.int .i32 (F.P q))).drew = v6 at *
                    obtain ⟨hcc, hfc⟩ := M6.out.cts.cell hd hv256
                    simp only [HPL.out] at hcc
                    have hwr : IntKind.i64.wrap ((r : Int) + 1) = (r : Int) + 1 := by rw [IntKind.wrap_i64]; omega
                    have NX := hide (M6.out.drew.count hbC hsC HC.out hm (HV.out.trans (by rw [HQ.out])) (k := (r : Int)) (by rw [HPL.out]))
                    clear M6 heG hCG hi5
                    go_upto_region 28 with fail
                    go_region_with (fail)
                    clear hcc hfc HPL HR0 HV HQ
                    go_wp2
                    go_roundw
                    case rel =>
                      refine ⟨_, _, _, _, _, _, _, _, _, _, _, _, _, _, _, _, _, _, _, _, _, _, _, _, _, _, ?_, rfl⟩
                      exact ⟨m + 1, by go_num, by omega, NX.out⟩
                    case measure => simp [intOf]; omega
                  · obtain rfl : n = m := by omega
                    have NX := hide mid.done
                    clear mid
                    go_wp2
                    go_roundw
                    case rel => exact ⟨Gb, Fb, d + 1, rfl, rfl, by go_num, by omega, NX.out⟩
                    case measure => simp [intOf]; omega
        · obtain rfl : d = 9 := by omega
          have hod : ∀ p, od (fd F.K 9) n p = od F.K n p := fun p => by
            unfold od
            rw [So_last fun j hj => ?_]
            have h1 := HF.out.w j hj
            have h2 := HF.out.l j hj
            show F.W j * 256 + F.L j < 256 ^ 9
            omega
          rcases ps.two with ⟨e1, e2⟩ | ⟨e1, e2⟩
          · have EN := hide (fun k => ((ps.fro.more (grown_drew (World.grownBy.refl wr none) k)).weak (S' := fun _ => True) (o' := od F.K n) fun p hp _ => ⟨trivial, hod p⟩))
            have FN := hide (fun k => ps.fr.drewN k)
            clear ps hod
            subst e1 e2
            have hne0 := neq_same Fb
            go_wp2
            go_quiet (fail)
            go_wp2
            go_returns
            exact HR.out _ _ ⟨rfl, EN.out _, FN.out _⟩
          · have SRC := hide (fun k => (ps.drewN k).fin e1 e2 hod)
            have hne0 := neq_other (by omega) ps.fro ps.til
            clear ps hod
            subst e1 e2
            have SRC' := hide (fun k => SRC.out k hne)
            clear SRC
            go_wp2
            go_quiet (fail)
            obtain ⟨cur, cs, hb, hl, hcl, hsrc, h1, hE, hFr⟩ := SRC'.out nq
            have EN := hide hE
            have FN := hide hFr
            have HSRC := hide hsrc
            have H1 := hide h1
            have HBe := hide hb
            clear hE hFr hsrc h1 hb SRC'
            have hcp := run_copy_wide (P := Try.prog) (wr.drewN nq) 31 31 3 34 Gb n n ⟨Fb, 0, none⟩ n n cur 34 cs 4 Try.underlying31 size34 HBe.out (by rw [hl]; simp) HSRC.out (by omega) H1.out
            go_wp2
            go_returns
            exact HR.out _ _ ⟨rfl, EN.out, FN.out⟩
end Go.Proofs.Qxb6600216a
