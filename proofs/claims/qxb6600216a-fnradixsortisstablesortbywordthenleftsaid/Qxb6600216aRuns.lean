import Derived.Test.Qxb6600216aBase
import Derived.Handy
namespace Go.Proofs.Qxb6600216a
open Go.RowKit

set_option maxHeartbeats 400000 in
theorem bytes20 (a0 a1 a2 : Option Addr) (l0 l1 l2 c0 c1 c2 : Nat) (w : World) :
    Calls Try.prog 20 #[.slice a0 l0 c0, .slice a1 l1 c1, .slice a2 l2 c2] w fun e w' => ∃ b, e = .returned (.bool b) ∧ w = w' := by
  refine hidR fun R HR => ?_
  go_enter Try.func20, Try.ntmps20
  go_wp2
  all_goals exact HR.out _ _ ⟨_, rfl, rfl⟩

set_option maxHeartbeats 400000 in
theorem bytes23 (a0 a1 a2 : Option Addr) (l0 l1 l2 c0 c1 c2 : Nat) (w : World) :
    Calls Try.prog 23 #[.slice a0 l0 c0, .slice a1 l1 c1, .slice a2 l2 c2] w fun e w' => ∃ b, e = .returned (.bool b) ∧ w = w' := by
  refine hidR fun R HR => ?_
  go_enter Try.func23, Try.ntmps23
  go_wp2
  all_goals exact HR.out _ _ ⟨_, rfl, rfl⟩

set_option maxHeartbeats 400000 in
theorem run21 (x y z : Int) (w : World) :
    Calls Try.prog 21 #[.int .i32 x, .int .i32 y, .int .i32 z] w fun e w' => e = .returned (.agg #[.int .i32 x, .int .i32 y, .int .i32 z]) ∧ w.alloc (.cells #[.int .i32 x, .int .i32 y, .int .i32 z] 48) = w' := by
  refine hidR fun R HR => ?_
  go_enter Try.func21, Try.ntmps21
  go_wp2
  refine bodyPost_ret (v := .agg #[.int .i32 x, .int .i32 y, .int .i32 z]) (by simp [results, Try.results21, go_sem]) rfl ?_
  exact HR.out _ _ ⟨rfl, rfl⟩

/-- A slice of runs, asked for only where there is one. -/
def RunsAt (w : World) (a : Option Addr) (len : Nat) (A F E : Nat → Int) : Prop :=
  ∀ k, k < len → ∃ b off, a = some ⟨b, off, none⟩ ∧ ∀ j, j < len → w.cell? ⟨b, off + j * 3, none⟩ = some (.int .i32 (A j)) ∧ w.cell? ⟨b, off + j * 3 + 1, none⟩ = some (.int .i32 (F j)) ∧ w.cell? ⟨b, off + j * 3 + 2, none⟩ = some (.int .i32 (E j))

/-- The records of the first k runs. -/
def sm (S : Nat → Int) : Nat → Int
  | 0 => 0
  | k + 1 => sm S k + S k

theorem sm_bd {S : Nat → Int} {n : Nat} (h : ∀ k, k < n → -2147483648 ≤ S k ∧ S k ≤ 2147483647) : ∀ k, k ≤ n → -2147483648 * (k : Int) ≤ sm S k ∧ sm S k ≤ 2147483647 * (k : Int)
  | 0, _ => by simp [sm]
  | k + 1, hk => by
    have ih := sm_bd h k (by omega)
    have := h k (by omega)
    simp only [sm]
    omega

def sizeOf32 (f e : Int) : Int := wrap32 (e - f)

/-- Where an account's block ends. -/
def Edge (A : Nat → Int) (len k : Nat) : Prop := k = len ∨ A k ≠ A (k - 1)

/-- What batchEnd answers. -/
def BEnd (A S : Nat → Int) (len : Nat) (k : Nat) (f : Bool) : Prop :=
  ∃ n, n ≤ len ∧ (0 < n → Edge A len n ∧ sm S n ≤ 64) ∧ (n = len ∨ ∃ e, n < e ∧ e ≤ len ∧ (∀ j, n ≤ j → j < e → A j = A n) ∧ (e = len ∨ A e ≠ A n) ∧ 64 < sm S e) ∧
    ((0 < n ∧ k = n ∧ f = decide (A 0 ≠ A (n - 1))) ∨ (n = 0 ∧ f = false ∧ k ≤ len ∧ (∀ j, j < k → A j = A 0) ∧ (k = len ∨ A k ≠ A 0)))

theorem bend_full {A S : Nat → Int} {len n : Nat} (hn : n ≤ len) (h0 : 0 < n) (h : 0 < n → Edge A len n ∧ sm S n ≤ 64) (hx : n = len ∨ ∃ e, n < e ∧ e ≤ len ∧ (∀ j, n ≤ j → j < e → A j = A n) ∧ (e = len ∨ A e ≠ A n) ∧ 64 < sm S e) :
    BEnd A S len n (A 0 != A (n - 1)) := ⟨n, hn, h, hx, .inl ⟨h0, rfl, by cases hb : (A 0 != A (n - 1)) <;> simp_all⟩⟩

theorem wr32 (x : Int) : IntKind.i32.wrap x = wrap32 x := by rw [IntKind.wrap_i32]; unfold wrap32; rfl
theorem wrap32_bd (x : Int) : -2147483648 ≤ wrap32 x ∧ wrap32 x ≤ 2147483647 := by unfold wrap32; omega

/-- The block from m on goes as far as k. -/
def Block (A S : Nat → Int) (m k : Nat) (z : Int) : Prop := (∀ j, m ≤ j → j < k → A j = A m) ∧ z = sm S k - sm S m

theorem drawn2 (w : World) (a b : Nat) : ∃ n, w.drewN n = (w.drewN a).drewN b := ⟨a + b, (World.drewN_drewN w a b).symm⟩

theorem all_succ {A : Nat → Int} {t : Nat} (h : ∀ j, j < t → A j = A 0) (ht : A t = A 0) : ∀ j, j < t + 1 → A j = A 0 := by
  intro j hj
  by_cases e : j = t
  · rw [e]; exact ht
  · exact h j (by omega)

theorem block_succ {A S : Nat → Int} {m k : Nat} {z : Int} (h : Block A S m k z) (hk : A k = A m) : Block A S m (k + 1) (z + S k) := by
  refine ⟨fun j h1 h2 => ?_, ?_⟩
  · by_cases e : j = k
    · rw [e]; exact hk
    · exact h.1 j h1 (by omega)
  · have := h.2
    simp only [sm]
    omega

theorem block_lt {A : Nat → Int} {m k len : Nat} (hlt : m < len) (hmk : m ≤ k) (hx : k = len ∨ A k ≠ A m) : m < k := by
  rcases hx with e | e
  · omega
  · rcases Nat.lt_or_ge m k with h | h
    · exact h
    · exact absurd (by rw [show k = m by omega]) e

theorem exit_of {A S : Nat → Int} {m k len : Nat} {y z : Int} (h : Block A S m k z) (hy : y = sm S m) (hlt : m < len) (hmk : m ≤ k) (hkl : k ≤ len) (hx : k = len ∨ A k ≠ A m) (h64 : 64 < y + z) :
    m = len ∨ ∃ e, m < e ∧ e ≤ len ∧ (∀ j, m ≤ j → j < e → A j = A m) ∧ (e = len ∨ A e ≠ A m) ∧ 64 < sm S e :=
  .inr ⟨k, block_lt hlt hmk hx, hkl, h.1, hx, by have := h.2; omega⟩

theorem go_on {A S : Nat → Int} {m k len : Nat} {y z : Int} (h : Block A S m k z) (hy : y = sm S m) (hlt : m < len) (hmk : m ≤ k) (_hkl : k ≤ len) (hx : k = len ∨ A k ≠ A m) (h64 : y + z ≤ 64) :
    m < k ∧ y + z = sm S k ∧ Edge A len k ∧ sm S k ≤ 64 := by
  have h1 := block_lt hlt hmk hx
  have h2 := h.2
  refine ⟨h1, by omega, ?_, by omega⟩
  rcases hx with e | e
  · exact .inl e
  · right
    rw [h.1 (k - 1) (by omega) (by omega)]
    exact e

set_option maxRecDepth 100000 in
set_option maxHeartbeats 2000000 in
theorem bend33 (a : Option Addr) (len cap : Nat) (A F E S : Nat → Int) (w : World) (h : RunsAt w a len A F E) (hm : len ≤ 65536) (hS : ∀ j, wrap32 (E j - F j) = S j) :
    Calls Try.prog 33 #[.slice a len cap] w fun e w' => ∃ (k : Nat) (f : Bool), e = .returned (.tuple #[.int .i64 k, .bool f]) ∧ BEnd A S len k f ∧ ∃ nq, w.drewN nq = w' := by
  refine hidR fun R HR => ?_
  have hSb : ∀ j, -2147483648 ≤ S j ∧ S j ≤ 2147483647 := fun j => by rw [← hS]; exact wrap32_bd _
  have hbd := sm_bd (S := S) (n := len) (fun k _ => hSb k)
  have HS := hide hS
  have HSB := hide hSb
  have HBD := hide hbd
  have H := hide h
  clear hS hSb hbd h
  go_enter Try.func33, Try.ntmps33
  go_wp2
  go_loopw [4, 5] (fun n r wr => ∃ (m nq : Nat) (y : Int), m ≤ len ∧ n = .int .i64 m ∧ r = .int .i64 y ∧ y = sm S m ∧ (0 < m → Edge A len m ∧ sm S m ≤ 64) ∧ w.drewN nq = wr) (fun n _ _ => len - (intOf n).toNat)
  case atStart => exact ⟨0, 0, 0, Nat.zero_le _, rfl, rfl, rfl, fun h => absurd h (by omega), rfl⟩
  case round =>
    obtain ⟨m, nq0, y, hml, rfl, rfl, hy, hpre, rfl⟩ := hrel
    have hyb := HBD.out m hml
    rw [← hy] at hyb
    have HY := hide hy
    have HPRE := hide hpre
    clear hy hpre
    by_cases hlt : m < len
    · obtain ⟨b, off, rfl, hc⟩ := H.out m hlt
      obtain ⟨cm0, cm1, cm2⟩ := hc m hlt
      have HC := hide hc
      clear hc
      go_wp2
      go_loopw [6, 7] (fun n r wr => ∃ (k nq : Nat) (z : Int), m ≤ k ∧ k ≤ len ∧ n = .int .i64 k ∧ r = .int .i64 z ∧ Block A S m k z ∧ w.drewN nq = wr) (fun n _ _ => len - (intOf n).toNat)
      case atStart => exact ⟨m, _, 0, Nat.le_refl _, hml, rfl, rfl, ⟨fun j h1 h2 => absurd h1 (by omega), by omega⟩, rfl⟩
      case round =>
        obtain ⟨k, nq, z, hmk, hkl, rfl, rfl, hblk, rfl⟩ := hrel
        have hzb : -281474976710656 ≤ z ∧ z ≤ 281474976710656 := by
          have h1 := HBD.out k hkl
          have h2 := HBD.out m hml
          have h3 := hblk.2
          omega
        have hyb2 : -281474976710656 ≤ y ∧ y ≤ 281474976710656 := by omega
        have HBLK := hide hblk
        clear hblk
        by_cases hkt : k < len
        · obtain ⟨ck0, ck1, ck2⟩ := HC.out k hkt
          by_cases hac : A k = A m
          · have hbb : (A k == A m) = true := by simp [hac]
            have HAC := hide hac
            clear hac
            go_wp2
            go_quiet (fail)
            clear hbb
            go_wp2
            have hsb := HSB.out k
            have e1 : IntKind.i32.wrap (E k - F k) = S k := by rw [wr32]; exact HS.out k
            have e2 : IntKind.i64.wrap (S k) = S k := by rw [IntKind.wrap_i64]; omega
            have e3 : IntKind.i64.wrap (z + S k) = z + S k := by rw [IntKind.wrap_i64]; omega
            go_quiet (fail)
            clear e1 e2 e3
            go_wp2
            go_roundw
            case rel => exact ⟨k + 1, _, z + S k, by omega, by omega, by go_num, rfl, block_succ HBLK.out HAC.out, rfl⟩
            case measure => simp [intOf]; omega
          · have hbb : (A k == A m) = false := by simp [hac]
            have HAC := hide hac
            clear hac
            go_wp2
            go_quiet (fail)
            clear hbb
            go_wp2
            · have EX : Hid (m = len ∨ ∃ e, m < e ∧ e ≤ len ∧ (∀ j, m ≤ j → j < e → A j = A m) ∧ (e = len ∨ A e ≠ A m) ∧ 64 < sm S e) := exit_of HBLK.out HY.out hlt hmk hkl (.inr HAC.out) (by assumption)
              have c00 : w.cell? ⟨b, off, none⟩ = some (.int .i32 (A 0)) := by simpa using (HC.out 0 (by omega)).1
              have cl0 := (HC.out (m - 1) (by omega)).1
              go_quiet (fail)
              go_wp2
              exact HR.out _ _ ⟨m, _, rfl, bend_full hml (by assumption) HPRE.out EX.out, (by first | exact ⟨_, rfl⟩ | exact drawn2 _ _ _)⟩
            · have EX : Hid (m = len ∨ ∃ e, m < e ∧ e ≤ len ∧ (∀ j, m ≤ j → j < e → A j = A m) ∧ (e = len ∨ A e ≠ A m) ∧ 64 < sm S e) := exit_of HBLK.out HY.out hlt hmk hkl (.inr HAC.out) (by assumption)
              obtain rfl : m = 0 := by omega
              go_loopw [4] (fun n wr => ∃ (t nq : Nat), t ≤ len ∧ n = .int .i64 t ∧ (∀ j, j < t → A j = A 0) ∧ w.drewN nq = wr) (fun n _ => len - (intOf n).toNat)
              case atStart => exact ⟨0, _, Nat.zero_le _, rfl, fun j hj => absurd hj (by omega), rfl⟩
              case round =>
                obtain ⟨t, nq, htl, rfl, hall, rfl⟩ := hrel
                have HALL := hide hall
                clear hall
                have c00 : w.cell? ⟨b, off, none⟩ = some (.int .i32 (A 0)) := by simpa using (HC.out 0 (by omega)).1
                by_cases htt : t < len
                · have ct0 := (HC.out t htt).1
                  by_cases hat : A t = A 0
                  · have hbb : (A t == A 0) = true := by simp [hat]
                    have HAT := hide hat
                    clear hat
                    go_wp2
                    go_quiet (fail)
                    go_wp2
                    go_roundw
                    case rel => exact ⟨t + 1, _, by omega, by go_num, all_succ HALL.out HAT.out, rfl⟩
                    case measure => simp [intOf]; omega
                  · have hbb : (A t == A 0) = false := by simp [hat]
                    have HAT := hide hat
                    clear hat
                    go_wp2
                    go_quiet (fail)
                    go_wp2
                    exact HR.out _ _ ⟨t, _, rfl, ⟨0, Nat.zero_le _, fun h => absurd h (by omega), EX.out, .inr ⟨rfl, rfl, htl, HALL.out, .inr HAT.out⟩⟩, (by first | exact ⟨_, rfl⟩ | exact drawn2 _ _ _)⟩
                · obtain rfl : t = len := by omega
                  have hdec : decide (t < t) = false := by simp
                  go_wp2
                  go_quiet (fail)
                  go_wp2
                  exact HR.out _ _ ⟨t, _, rfl, ⟨0, Nat.zero_le _, fun h => absurd h (by omega), EX.out, .inr ⟨rfl, rfl, htl, HALL.out, .inl rfl⟩⟩, (by first | exact ⟨_, rfl⟩ | exact drawn2 _ _ _)⟩
            · have hle64 : y + z ≤ 64 := by assumption
              have GO := go_on HBLK.out HY.out hlt hmk hkl (.inr HAC.out) hle64
              go_roundw
              case rel => exact ⟨k, _, _, hkl, rfl, rfl, GO.2.1, fun _ => GO.2.2, rfl⟩
              case measure => simp [intOf]; have := GO.1; omega
        · have hdec : decide (k < len) = false := by simp; omega
          go_wp2
          go_quiet (fail)
          clear hdec
          go_wp2
          · have EX : Hid (m = len ∨ ∃ e, m < e ∧ e ≤ len ∧ (∀ j, m ≤ j → j < e → A j = A m) ∧ (e = len ∨ A e ≠ A m) ∧ 64 < sm S e) := exit_of HBLK.out HY.out hlt hmk hkl (.inl (by omega)) (by assumption)
            have c00 : w.cell? ⟨b, off, none⟩ = some (.int .i32 (A 0)) := by simpa using (HC.out 0 (by omega)).1
            have cl0 := (HC.out (m - 1) (by omega)).1
            go_quiet (fail)
            go_wp2
            exact HR.out _ _ ⟨m, _, rfl, bend_full hml (by assumption) HPRE.out EX.out, (by first | exact ⟨_, rfl⟩ | exact drawn2 _ _ _)⟩
          · have EX : Hid (m = len ∨ ∃ e, m < e ∧ e ≤ len ∧ (∀ j, m ≤ j → j < e → A j = A m) ∧ (e = len ∨ A e ≠ A m) ∧ 64 < sm S e) := exit_of HBLK.out HY.out hlt hmk hkl (.inl (by omega)) (by assumption)
            obtain rfl : m = 0 := by omega
            go_loopw [4] (fun n wr => ∃ (t nq : Nat), t ≤ len ∧ n = .int .i64 t ∧ (∀ j, j < t → A j = A 0) ∧ w.drewN nq = wr) (fun n _ => len - (intOf n).toNat)
            case atStart => exact ⟨0, _, Nat.zero_le _, rfl, fun j hj => absurd hj (by omega), rfl⟩
            case round =>
              obtain ⟨t, nq, htl, rfl, hall, rfl⟩ := hrel
              have HALL := hide hall
              clear hall
              have c00 : w.cell? ⟨b, off, none⟩ = some (.int .i32 (A 0)) := by simpa using (HC.out 0 (by omega)).1
              by_cases htt : t < len
              · have ct0 := (HC.out t htt).1
                by_cases hat : A t = A 0
                · have hbb : (A t == A 0) = true := by simp [hat]
                  have HAT := hide hat
                  clear hat
                  go_wp2
                  go_quiet (fail)
                  go_wp2
                  go_roundw
                  case rel => exact ⟨t + 1, _, by omega, by go_num, all_succ HALL.out HAT.out, rfl⟩
                  case measure => simp [intOf]; omega
                · have hbb : (A t == A 0) = false := by simp [hat]
                  have HAT := hide hat
                  clear hat
                  go_wp2
                  go_quiet (fail)
                  go_wp2
                  exact HR.out _ _ ⟨t, _, rfl, ⟨0, Nat.zero_le _, fun h => absurd h (by omega), EX.out, .inr ⟨rfl, rfl, htl, HALL.out, .inr HAT.out⟩⟩, (by first | exact ⟨_, rfl⟩ | exact drawn2 _ _ _)⟩
              · obtain rfl : t = len := by omega
                have hdec : decide (t < t) = false := by simp
                go_wp2
                go_quiet (fail)
                go_wp2
                exact HR.out _ _ ⟨t, _, rfl, ⟨0, Nat.zero_le _, fun h => absurd h (by omega), EX.out, .inr ⟨rfl, rfl, htl, HALL.out, .inl rfl⟩⟩, (by first | exact ⟨_, rfl⟩ | exact drawn2 _ _ _)⟩
          · have hle64 : y + z ≤ 64 := by assumption
            have GO := go_on HBLK.out HY.out hlt hmk hkl (.inl (by omega)) hle64
            go_roundw
            case rel => exact ⟨k, _, _, hkl, rfl, rfl, GO.2.1, fun _ => GO.2.2, rfl⟩
            case measure => simp [intOf]; have := GO.1; omega
    · obtain rfl : m = len := by omega
      by_cases h0 : 0 < m
      · obtain ⟨b, off, rfl, hc⟩ := H.out 0 h0
        have c00 : w.cell? ⟨b, off, none⟩ = some (.int .i32 (A 0)) := by simpa using (hc 0 (by omega)).1
        have cl0 := (hc (m - 1) (by omega)).1
        clear hc
        go_wp2
        go_quiet (fail)
        go_wp2
        exact HR.out _ _ ⟨m, _, rfl, bend_full hml (by assumption) HPRE.out (.inl rfl), (by first | exact ⟨_, rfl⟩ | exact drawn2 _ _ _)⟩
      · obtain rfl : m = 0 := by omega
        go_wp2
        refine wp_loop_rounds 1 ?_
        rw [rounds_succ]
        have hdec : decide (0 < 0) = false := by simp
        go_wp2
        go_quiet (fail)
        go_wp2
        exact HR.out _ _ ⟨0, _, rfl, ⟨0, Nat.zero_le _, fun h => absurd h (by omega), .inl rfl, .inr ⟨rfl, rfl, Nat.zero_le _, fun j hj => absurd hj (by omega), .inl rfl⟩⟩, (by first | exact ⟨_, rfl⟩ | exact drawn2 _ _ _)⟩
end Go.Proofs.Qxb6600216a
