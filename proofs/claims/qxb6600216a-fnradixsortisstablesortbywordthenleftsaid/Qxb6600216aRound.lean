import Derived.Test.Qxb6600216aSub
namespace Go.Proofs.Qxb6600216a
open Go.RowKit
set_option linter.unusedVariables false

set_option maxRecDepth 100000 in
set_option maxHeartbeats 8000000 in
theorem round4 (g0 k0 l0 g1 k1 l1 n ob tb W lo : Nat) (F : Flds) (w6 wr : World) (x2 x3 x4 x5 x6 x7 x8 x9 x10 x11 x12 x14 x15 x16 x19 x22 x23 x24 x25 x26 x27 x28 x29 x30 x31 x32 x33 x34 x35 x36 x37 x38 x39 x40 x41 x42 x43 x44 x45 x46 x47 x48 x49 x50 x51 x52 x53 x54 x55 x56 x57 x58 x59 x60 x61 x62 x63 x64 x65 x66 x67 x68 x69 x70 x71 x72 x73 x74 x75 x76 x77 x78 x79 x80 x81 x82 x83 x84 x85 x86 x87 x88 x89 x90 x91 x92 x93 x94 x95 x96 x97 x98 x99 x100 x101 x102 x103 x104 x105 x106 x107 x108 x109 x110 x111 x112 x113 x114 x115 x116 x117 x118 x119 x120 x121 x122 x123 x124 x125 x126 x127 x128 x129 x130 x131 x132 x133 x134 x135 x136 x137 x138 x139 x140 x141 x142 x143 x144 x145 x146 x147 x148 x149 x150 x151 x152 x153 x154 x155 x156 x157 x158 x159 x160 x161 x162 x163 x164 x165 x166 x167 x168 x169 x170 x171 x172 x173 x174 x175 x176 x177 x178 x179 x180 x181 x182 x183 x184 x185 x186 x187 x188 x189 x190 x191 x192 x193 x194 x195 x196 x197 x198 x199 x200 x201 x202 x203 x204 x205 x206 x207 x208 x209 x210 x211 x212 x213 x214 x215 x216 x217 x218 x219 x220 x221 x222 x223 x224 x225 x226 x227 x228 x229 x230 x231 x232 x233 x234 x235 x236 x237 x238 x239 x240 x241 x242 x243 x244 x245 x246 x247 x248 x249 x250 x251 x252 x253 x254 x255 x256 x257 x258 x259 x260 x261 x262 x263 x264 x265 x266 x267 x268 x269 x270 x271 x272 x273 x274 x275 x276 x277 x278 x279 x280 x281 x282 x283 x284 x285 x286 x287 x288 x289 x290 x291 x292 x293 x294 x295 x296 x297 x298 x299 x300 x301 x302 x303 x304 x305 x306 x307 x308 x309 x310 x311 x312 : Value) (Q : Exit → Act → World → Prop)
    (Q0' : Hid (∀ i, i < l0 → w6.cell? ⟨g0, i, none⟩ = some (.int .u64 (F.W i : Nat)))) (Q1' : Hid (∀ i, i < l1 → w6.cell? ⟨g1, i, none⟩ = some (.int .u8 (F.L i : Nat)))) (FOK : Hid (F.Ok n))
    (hl0 : l0 ≤ 1048576) (hl1 : l1 ≤ 1048576) (hn0 : n ≤ l0) (hn1 : n ≤ l1) (hn20 : n ≤ 1048576) (hW0 : 0 < W) (hWm : W ≤ 2097152) (hos : w6.heap.size + 1 < ob) (hts : w6.heap.size + 1 < tb) (hot : ob ≠ tb) (hlo : lo < n) (HLM : Hid (lo % (2 * W) = 0))
    (T1 : Hid (Sst w6 wr n F (fun _ => True))) (O0 : Hid (Ord wr ob n (fun _ => True) (bk F.K n W))) (O1 : Hid (Ord wr tb n (fun p => p < lo) (bk F.K n (2 * W))))
    (HQ : Hid (∀ (y22 y23 y24 y25 y26 y177 y178 y179 y180 y181 y182 y183 y184 y185 y186 y187 y188 y189 y190 y191 y192 y193 y194 y195 y196 y197 y198 y199 y200 y201 y202 y203 y204 y205 y206 y207 y208 y209 y210 y211 y212 y213 y214 y215 y216 y217 y218 y219 y220 y221 y222 y223 y224 y225 y226 y227 y228 y229 y230 y231 y232 y233 y234 y235 y236 y237 y238 y239 y240 y241 y242 y243 y244 y245 y246 y247 y248 y249 y250 y251 y252 y253 y254 y255 y256 y257 y258 y259 y260 : Value) (wj : World), Sst w6 wj n F (fun _ => True) → Ord wj ob n (fun _ => True) (bk F.K n W) → Ord wj tb n (fun p => p < lo + 2 * W) (bk F.K n (2 * W)) → Q .normal { tmps := ((.slice (some ⟨g0, 0, none⟩) l0 k0) :: (.slice (some ⟨g1, 0, none⟩) l1 k1) :: (x2) :: (x3) :: (x4) :: (x5) :: (x6) :: (x7) :: (x8) :: (x9) :: (x10) :: (x11) :: (x12) :: (.int .i64 (n : Nat)) :: (x14) :: (x15) :: (x16) :: (.slice (some ⟨ob, 0, none⟩) n n) :: (.slice (some ⟨tb, 0, none⟩) n n) :: (x19) :: (.int .i64 (W : Nat)) :: (.int .i64 (lo : Nat)) :: (y22) :: (y23) :: (y24) :: (y25) :: (y26) :: (x27) :: (x28) :: (x29) :: (x30) :: (x31) :: (x32) :: (x33) :: (x34) :: (x35) :: (x36) :: (x37) :: (x38) :: (x39) :: (x40) :: (x41) :: (x42) :: (x43) :: (x44) :: (x45) :: (x46) :: (x47) :: (x48) :: (x49) :: (x50) :: (x51) :: (x52) :: (x53) :: (x54) :: (x55) :: (x56) :: (x57) :: (x58) :: (x59) :: (x60) :: (x61) :: (x62) :: (x63) :: (x64) :: (x65) :: (x66) :: (x67) :: (x68) :: (x69) :: (x70) :: (x71) :: (x72) :: (x73) :: (x74) :: (x75) :: (x76) :: (x77) :: (x78) :: (x79) :: (x80) :: (x81) :: (x82) :: (x83) :: (x84) :: (x85) :: (x86) :: (x87) :: (x88) :: (x89) :: (x90) :: (x91) :: (x92) :: (x93) :: (x94) :: (x95) :: (x96) :: (x97) :: (x98) :: (x99) :: (x100) :: (x101) :: (x102) :: (x103) :: (x104) :: (x105) :: (x106) :: (x107) :: (x108) :: (x109) :: (x110) :: (x111) :: (x112) :: (x113) :: (x114) :: (x115) :: (x116) :: (x117) :: (x118) :: (x119) :: (x120) :: (x121) :: (x122) :: (x123) :: (x124) :: (x125) :: (x126) :: (x127) :: (x128) :: (x129) :: (x130) :: (x131) :: (x132) :: (x133) :: (x134) :: (x135) :: (x136) :: (x137) :: (x138) :: (x139) :: (x140) :: (x141) :: (x142) :: (x143) :: (x144) :: (x145) :: (x146) :: (x147) :: (x148) :: (x149) :: (x150) :: (x151) :: (x152) :: (x153) :: (x154) :: (x155) :: (x156) :: (x157) :: (x158) :: (x159) :: (x160) :: (x161) :: (x162) :: (x163) :: (x164) :: (x165) :: (x166) :: (x167) :: (x168) :: (x169) :: (x170) :: (x171) :: (x172) :: (x173) :: (x174) :: (x175) :: (x176) :: (y177) :: (y178) :: (y179) :: (y180) :: (y181) :: (y182) :: (y183) :: (y184) :: (y185) :: (y186) :: (y187) :: (y188) :: (y189) :: (y190) :: (y191) :: (y192) :: (y193) :: (y194) :: (y195) :: (y196) :: (y197) :: (y198) :: (y199) :: (y200) :: (y201) :: (y202) :: (y203) :: (y204) :: (y205) :: (y206) :: (y207) :: (y208) :: (y209) :: (y210) :: (y211) :: (y212) :: (y213) :: (y214) :: (y215) :: (y216) :: (y217) :: (y218) :: (y219) :: (y220) :: (y221) :: (y222) :: (y223) :: (y224) :: (y225) :: (y226) :: (y227) :: (y228) :: (y229) :: (y230) :: (y231) :: (y232) :: (y233) :: (y234) :: (y235) :: (y236) :: (y237) :: (y238) :: (y239) :: (y240) :: (y241) :: (y242) :: (y243) :: (y244) :: (y245) :: (y246) :: (y247) :: (y248) :: (y249) :: (y250) :: (y251) :: (y252) :: (y253) :: (y254) :: (y255) :: (y256) :: (y257) :: (y258) :: (y259) :: (y260) :: (x261) :: (x262) :: (x263) :: (x264) :: (x265) :: (x266) :: (x267) :: (x268) :: (x269) :: (x270) :: (x271) :: (x272) :: (x273) :: (x274) :: (x275) :: (x276) :: (x277) :: (x278) :: (x279) :: (x280) :: (x281) :: (x282) :: (x283) :: (x284) :: (x285) :: (x286) :: (x287) :: (x288) :: (x289) :: (x290) :: (x291) :: (x292) :: (x293) :: (x294) :: (x295) :: (x296) :: (x297) :: (x298) :: (x299) :: (x300) :: (x301) :: (x302) :: (x303) :: (x304) :: (x305) :: (x306) :: (x307) :: (x308) :: (x309) :: (x310) :: (x311) :: (x312) :: []).toArray, defers := [] } wj)) :
    Code.wp Try.prog (sub (1 :: 1 :: 1 :: 1 :: 1 :: 1 :: 1 :: 1 :: 1 :: 1 :: 1 :: 1 :: 1 :: 1 :: 1 :: 1 :: 1 :: 1 :: 1 :: 0 :: 1 :: 0 :: 0 :: 1 :: 0 :: 0 :: 0 :: 1 :: 0 :: 0 :: 1 :: 0 :: 0 :: []) (whole Try.f3)) Q { tmps := ((.slice (some ⟨g0, 0, none⟩) l0 k0) :: (.slice (some ⟨g1, 0, none⟩) l1 k1) :: (x2) :: (x3) :: (x4) :: (x5) :: (x6) :: (x7) :: (x8) :: (x9) :: (x10) :: (x11) :: (x12) :: (.int .i64 (n : Nat)) :: (x14) :: (x15) :: (x16) :: (.slice (some ⟨ob, 0, none⟩) n n) :: (.slice (some ⟨tb, 0, none⟩) n n) :: (x19) :: (.int .i64 (W : Nat)) :: (.int .i64 (lo : Nat)) :: (x22) :: (x23) :: (x24) :: (x25) :: (x26) :: (x27) :: (x28) :: (x29) :: (x30) :: (x31) :: (x32) :: (x33) :: (x34) :: (x35) :: (x36) :: (x37) :: (x38) :: (x39) :: (x40) :: (x41) :: (x42) :: (x43) :: (x44) :: (x45) :: (x46) :: (x47) :: (x48) :: (x49) :: (x50) :: (x51) :: (x52) :: (x53) :: (x54) :: (x55) :: (x56) :: (x57) :: (x58) :: (x59) :: (x60) :: (x61) :: (x62) :: (x63) :: (x64) :: (x65) :: (x66) :: (x67) :: (x68) :: (x69) :: (x70) :: (x71) :: (x72) :: (x73) :: (x74) :: (x75) :: (x76) :: (x77) :: (x78) :: (x79) :: (x80) :: (x81) :: (x82) :: (x83) :: (x84) :: (x85) :: (x86) :: (x87) :: (x88) :: (x89) :: (x90) :: (x91) :: (x92) :: (x93) :: (x94) :: (x95) :: (x96) :: (x97) :: (x98) :: (x99) :: (x100) :: (x101) :: (x102) :: (x103) :: (x104) :: (x105) :: (x106) :: (x107) :: (x108) :: (x109) :: (x110) :: (x111) :: (x112) :: (x113) :: (x114) :: (x115) :: (x116) :: (x117) :: (x118) :: (x119) :: (x120) :: (x121) :: (x122) :: (x123) :: (x124) :: (x125) :: (x126) :: (x127) :: (x128) :: (x129) :: (x130) :: (x131) :: (x132) :: (x133) :: (x134) :: (x135) :: (x136) :: (x137) :: (x138) :: (x139) :: (x140) :: (x141) :: (x142) :: (x143) :: (x144) :: (x145) :: (x146) :: (x147) :: (x148) :: (x149) :: (x150) :: (x151) :: (x152) :: (x153) :: (x154) :: (x155) :: (x156) :: (x157) :: (x158) :: (x159) :: (x160) :: (x161) :: (x162) :: (x163) :: (x164) :: (x165) :: (x166) :: (x167) :: (x168) :: (x169) :: (x170) :: (x171) :: (x172) :: (x173) :: (x174) :: (x175) :: (x176) :: (x177) :: (x178) :: (x179) :: (x180) :: (x181) :: (x182) :: (x183) :: (x184) :: (x185) :: (x186) :: (x187) :: (x188) :: (x189) :: (x190) :: (x191) :: (x192) :: (x193) :: (x194) :: (x195) :: (x196) :: (x197) :: (x198) :: (x199) :: (x200) :: (x201) :: (x202) :: (x203) :: (x204) :: (x205) :: (x206) :: (x207) :: (x208) :: (x209) :: (x210) :: (x211) :: (x212) :: (x213) :: (x214) :: (x215) :: (x216) :: (x217) :: (x218) :: (x219) :: (x220) :: (x221) :: (x222) :: (x223) :: (x224) :: (x225) :: (x226) :: (x227) :: (x228) :: (x229) :: (x230) :: (x231) :: (x232) :: (x233) :: (x234) :: (x235) :: (x236) :: (x237) :: (x238) :: (x239) :: (x240) :: (x241) :: (x242) :: (x243) :: (x244) :: (x245) :: (x246) :: (x247) :: (x248) :: (x249) :: (x250) :: (x251) :: (x252) :: (x253) :: (x254) :: (x255) :: (x256) :: (x257) :: (x258) :: (x259) :: (x260) :: (x261) :: (x262) :: (x263) :: (x264) :: (x265) :: (x266) :: (x267) :: (x268) :: (x269) :: (x270) :: (x271) :: (x272) :: (x273) :: (x274) :: (x275) :: (x276) :: (x277) :: (x278) :: (x279) :: (x280) :: (x281) :: (x282) :: (x283) :: (x284) :: (x285) :: (x286) :: (x287) :: (x288) :: (x289) :: (x290) :: (x291) :: (x292) :: (x293) :: (x294) :: (x295) :: (x296) :: (x297) :: (x298) :: (x299) :: (x300) :: (x301) :: (x302) :: (x303) :: (x304) :: (x305) :: (x306) :: (x307) :: (x308) :: (x309) :: (x310) :: (x311) :: (x312) :: []).toArray, defers := [] } wr := by
  unfold whole Try.f3
  simp only [Option.getD_some, sub]
  obtain ⟨mid, em⟩ : ∃ mid, mid = lo + min W (n - lo) := ⟨_, rfl⟩
  obtain ⟨hi, eh⟩ : ∃ hi, hi = mid + min W (n - mid) := ⟨_, rfl⟩
  have EM := hide em
  have EH := hide eh
  have hmn : mid ≤ n := by omega
  have hhn : hi ≤ n := by omega
  clear em eh
  go_upto_if 182 with fail
  go_cut [22] from 177 to 260 (fun v wx => v = .int .i64 (mid : Nat) ∧ wr = wx)
  case first =>
    go_wp2
    all_goals go_meet
    case rel => exact ⟨congrArg (Value.int .i64) (by have := EM.out; omega), rfl⟩
    case rel => exact ⟨congrArg (Value.int .i64) (by have := EM.out; omega), rfl⟩
  case rest =>
    obtain ⟨rfl, rfl⟩ := hcut
    go_upto_if 189 with fail
    go_cut [23] from 177 to 260 (fun v wx => v = .int .i64 (hi : Nat) ∧ wr = wx)
    case first =>
      go_wp2
      all_goals go_meet
      case rel => exact ⟨congrArg (Value.int .i64) (by have := EH.out; omega), rfl⟩
      case rel => exact ⟨congrArg (Value.int .i64) (by have := EH.out; omega), rfl⟩
    case rest =>
      obtain ⟨rfl, rfl⟩ := hcut
      have M0 := hide (ms_start hlo EM.out EH.out HLM.out hos hts hot T1.out O0.out O1.out)
      clear T1 O0 O1 EM EH
      go_upto_region 44 with fail
      go_loopw [24, 25, 26] (fun vi vj vk wj => ∃ i j k : Nat, vi = .int .i64 i ∧ vj = .int .i64 j ∧ vk = .int .i64 k ∧ Ms w6 wj n F ob tb W lo mid hi i j k) (fun vi vj _ _ => mid + hi - (intOf vi).toNat - (intOf vj).toNat)
      case atStart => exact ⟨lo, mid, lo, rfl, rfl, rfl, M0.out⟩
      case round =>
        clear M0
        obtain ⟨i, j, k, rfl, rfl, rfl, ms⟩ := hrel
        have MS := hide ms
        obtain ⟨e1, e2, e3, e4⟩ := ms.hin
        have e5 := ms.imid
        have e6 := ms.jhi
        have e7 := ms.midj
        have KK := hide ms.kk
        clear ms
        go_upto_region 44 with fail
        go_cut [201] from 194 to 232 (fun v wx => v = .bool (decide (i < mid ∧ j < hi)) ∧ wr = wx)
        case first =>
          by_cases hx : i < mid
          · by_cases hy : j < hi
            · go_wp2
              go_meet
              case rel => exact ⟨by rw [decide_eq_true ⟨hx, hy⟩], rfl⟩
            · go_wp2
              go_meet
              case rel => exact ⟨by rw [decide_eq_false (fun h => hy h.2)], rfl⟩
          · go_wp2
            go_meet
            case rel => exact ⟨by rw [decide_eq_false (fun h => hx h.1)], rfl⟩
        case rest =>
          obtain ⟨rfl, rfl⟩ := hcut
          by_cases hc : i < mid ∧ j < hi
          · rw [decide_eq_true hc]
            obtain ⟨hx, hy⟩ := hc
            have hkn : k < n := by have := KK.out; omega
            have hcj := MS.out.o1.cell (p := j) (by omega) trivial
            have hci := MS.out.o1.cell (p := i) (by omega) trivial
            have hpj := bk_lt F.K (n := n) (p := j) hW0 (by omega)
            have hpi := bk_lt F.K (n := n) (p := i) hW0 (by omega)
            have L17 : Calls Try.prog 17 #[.slice (some ⟨g0, 0, none⟩) l0 k0, .slice (some ⟨g1, 0, none⟩) l1 k1, .int .i64 ((bk F.K n W j : Nat) : Int), .int .i64 ((bk F.K n W i : Nat) : Int)] wr.drew (fun e w' => e = .returned (.bool (decide (F.K (bk F.K n W j) < F.K (bk F.K n W i)))) ∧ wr.drew.grownBy w' none) := (less17 g0 k0 l0 g1 k1 l1 F.W F.L (bk F.K n W j) (bk F.K n W i) wr.drew (rows_below Q0'.out MS.out.st.bel.drew) (rows_below Q1'.out MS.out.st.bel.drew) (by omega) (by omega) (by omega) (by omega) (by omega) (by omega) (FOK.out.l _ hpj) (FOK.out.l _ hpi)).mono (fun e w' ⟨h1, nq, h2⟩ => ⟨h1, h2 ▸ grown_drew (World.grownBy.refl wr.drew none) nq⟩)
            have ib1 : (j : Int) < (n : Int) := by omega
            have ib2 : (i : Int) < (n : Int) := by omega
            have ib3 : (k : Int) < (n : Int) := by omega
            by_cases hl : F.K (bk F.K n W j) < F.K (bk F.K n W i)
            · rw [decide_eq_true hl] at L17
              have LS := hide L17
              have NX := hide (fun w' (g : wr.drew.grownBy w' none) => (MS.out.more ((drew_grown (World.grownBy.refl wr none)).trans g)).takeR hx hy hl)
              have FRE := hide (fun w' (g : wr.drew.grownBy w' none) => (MS.out.more ((drew_grown (World.grownBy.refl wr none)).trans g)).o2.free hkn)
              obtain ⟨pj, hpe⟩ : ∃ pj, pj = bk F.K n W j := ⟨_, rfl⟩
              obtain ⟨pi, hpf⟩ : ∃ pi, pi = bk F.K n W i := ⟨_, rfl⟩
              rw [← hpe] at hcj NX LS
              rw [← hpf] at hci LS
              clear hpe hpf hpj hpi L17 hl MS
              go_upto_region 45 with fail
              go_region_held3 (fun w' => w'.cell? ⟨ob, j, none⟩ = some (.int .i64 (pj : Nat)) ∧ w'.cell? ⟨ob, i, none⟩ = some (.int .i64 (pi : Nat))) (first | (go_keep; done) | assumption)
                (first | (go_at_call 17; refine LS.out.mono ?_; rintro e w5 ⟨rfl, g5⟩; have hS5 := And.intro (cell_grown g5 hcj) (cell_grown g5 hci)))
              obtain ⟨hfz, t0, ht0⟩ := FRE.out _ g5
              have N5 := hide (NX.out _ g5)
              obtain ⟨hcj5, _⟩ := hS5
              clear NX FRE LS g5 hcj hci
              go_wp2
              go_roundw
              case rel => first
                | exact ⟨i, j + 1, k + 1, rfl, by go_num, by go_num, N5.out⟩
                | (refine ⟨_, _, _, _, _, _, _, _, _, _, _, _, _, _, _, _, _, _, _, _, _, _, _, _, _, _, _, _, _, _, _, _, _, _, _, _, _, _, _, _, _, _, ?_, rfl⟩; exact ⟨i, j + 1, k + 1, rfl, by go_num, by go_num, N5.out⟩)
              case measure => simp [intOf]; omega
            · rw [decide_eq_false hl] at L17
              have LS := hide L17
              have NX := hide (fun w' (g : wr.drew.grownBy w' none) => (MS.out.more ((drew_grown (World.grownBy.refl wr none)).trans g)).takeL hx (fun _ => hl))
              have FRE := hide (fun w' (g : wr.drew.grownBy w' none) => (MS.out.more ((drew_grown (World.grownBy.refl wr none)).trans g)).o2.free hkn)
              obtain ⟨pj, hpe⟩ : ∃ pj, pj = bk F.K n W j := ⟨_, rfl⟩
              obtain ⟨pi, hpf⟩ : ∃ pi, pi = bk F.K n W i := ⟨_, rfl⟩
              rw [← hpe] at hcj LS
              rw [← hpf] at hci LS NX
              clear hpe hpf hpj hpi L17 hl MS
              go_upto_region 45 with fail
              go_region_held3 (fun w' => w'.cell? ⟨ob, j, none⟩ = some (.int .i64 (pj : Nat)) ∧ w'.cell? ⟨ob, i, none⟩ = some (.int .i64 (pi : Nat))) (first | (go_keep; done) | assumption)
                (first | (go_at_call 17; refine LS.out.mono ?_; rintro e w5 ⟨rfl, g5⟩; have hS5 := And.intro (cell_grown g5 hcj) (cell_grown g5 hci)))
              obtain ⟨hfz, t0, ht0⟩ := FRE.out _ g5
              have N5 := hide (NX.out _ g5)
              obtain ⟨_, hci5⟩ := hS5
              clear NX FRE LS g5 hcj hci
              go_wp2
              go_roundw
              case rel => first
                | exact ⟨i + 1, j, k + 1, by go_num, rfl, by go_num, N5.out⟩
                | (refine ⟨_, _, _, _, _, _, _, _, _, _, _, _, _, _, _, _, _, _, _, _, _, _, _, _, _, _, _, _, _, _, _, _, _, _, _, _, _, _, _, _, _, _, ?_, rfl⟩; exact ⟨i + 1, j, k + 1, by go_num, rfl, by go_num, N5.out⟩)
              case measure => simp [intOf]; omega
          · rw [decide_eq_false hc]
            have M1 := hide (show (Ms w6 wr n F ob tb W lo mid hi i j k ∧ (i = mid ∨ j = hi)) from ⟨MS.out, by omega⟩)
            clear MS KK hc e1 e2 e3 e4 e5 e6 e7
            go_upto_region 51 with fail
            go_loopw [24, 26] (fun vi vk wj => ∃ i k : Nat, vi = .int .i64 i ∧ vk = .int .i64 k ∧ Ms w6 wj n F ob tb W lo mid hi i j k ∧ (i = mid ∨ j = hi)) (fun vi _ _ => mid - (intOf vi).toNat)
            case atStart => exact ⟨i, k, rfl, rfl, M1.out.1, M1.out.2⟩
            case round =>
              clear M1
              obtain ⟨i, k, rfl, rfl, ms, hor⟩ := hrel
              obtain ⟨e1, e2, e3, e4⟩ := ms.hin
              have e5 := ms.imid
              have e6 := ms.jhi
              have e7 := ms.midj
              have e8 := ms.kk
              by_cases hx : i < mid
              · have hjh : j = hi := by omega
                have hkn : k < n := by omega
                have hci := ms.o1.cell (p := i) (by omega) trivial
                obtain ⟨hfz, t0, ht0⟩ := ms.o2.free hkn
                have NX := hide (ms.takeL hx (fun h => absurd h (by omega)))
                obtain ⟨pi, hpf⟩ : ∃ pi, pi = bk F.K n W i := ⟨_, rfl⟩
                rw [← hpf] at hci NX
                have HJ := hide hjh
                clear ms hpf e8 hjh hor
                go_wp2
                go_roundw
                case rel => first
                  | exact ⟨i + 1, k + 1, by go_num, by go_num, NX.out, .inr HJ.out⟩
                  | (refine ⟨_, _, _, _, _, _, _, _, _, _, _, _, _, _, _, _, ?_, rfl⟩; exact ⟨i + 1, k + 1, by go_num, by go_num, NX.out, .inr HJ.out⟩)
                case measure => simp [intOf]; omega
              · obtain rfl : mid = i := by omega
                have M2 := hide ms
                clear ms hor e1 e2 e3 e4 e5 e6 e7 e8 hx
                go_upto_region 55 with fail
                go_loopw [25, 26] (fun vj vk wj => ∃ j k : Nat, vj = .int .i64 j ∧ vk = .int .i64 k ∧ Ms w6 wj n F ob tb W lo mid hi mid j k) (fun vj _ _ => hi - (intOf vj).toNat)
                case atStart => exact ⟨j, k, rfl, rfl, M2.out⟩
                case round =>
                  clear M2
                  obtain ⟨j, k, rfl, rfl, ms⟩ := hrel
                  obtain ⟨e1, e2, e3, e4⟩ := ms.hin
                  have e6 := ms.jhi
                  have e7 := ms.midj
                  have e8 := ms.kk
                  by_cases hy : j < hi
                  · have hkn : k < n := by omega
                    have hcj := ms.o1.cell (p := j) (by omega) trivial
                    obtain ⟨hfz, t0, ht0⟩ := ms.o2.free hkn
                    have NX := hide (ms.takeR' rfl hy)
                    obtain ⟨pj, hpf⟩ : ∃ pj, pj = bk F.K n W j := ⟨_, rfl⟩
                    rw [← hpf] at hcj NX
                    clear ms hpf e8
                    go_wp2
                    go_roundw
                    case rel => first
                      | exact ⟨j + 1, k + 1, by go_num, by go_num, NX.out⟩
                      | (refine ⟨_, _, _, _, _, _, _, _, _, _, _, _, _, _, _, _, ?_, rfl⟩; exact ⟨j + 1, k + 1, by go_num, by go_num, NX.out⟩)
                    case measure => simp [intOf]; omega
                  · obtain rfl : hi = j := by omega
                    have E1 := hide ms.st
                    have E2 := hide ms.o1
                    have E3 := hide ms.fin
                    clear ms e1 e2 e3 e4 e6 e7 e8 hy
                    go_wp2
                    exact HQ.out _ _ _ _ _ _ _ _ _ _ _ _ _ _ _ _ _ _ _ _ _ _ _ _ _ _ _ _ _ _ _ _ _ _ _ _ _ _ _ _ _ _ _ _ _ _ _ _ _ _ _ _ _ _ _ _ _ _ _ _ _ _ _ _ _ _ _ _ _ _ _ _ _ _ _ _ _ _ _ _ _ _ _ _ _ _ _ _ _ _ E1.out E2.out E3.out
end Go.Proofs.Qxb6600216a
