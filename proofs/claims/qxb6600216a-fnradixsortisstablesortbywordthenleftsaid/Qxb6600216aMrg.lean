import Derived.Test.Qxb6600216aSort
import Derived.Below
namespace Go.Proofs.Qxb6600216a
open Go.RowKit
set_option linter.unusedVariables false

set_option maxHeartbeats 1000000 in
theorem bytes7 (a0 a1 a2 a3 a4 a5 : Option Addr) (l0 l1 l2 l3 l4 l5 c0 c1 c2 c3 c4 c5 : Nat) (w : World) (m0 : l0 ≤ 9223372036854775807) (m1 : l1 ≤ 9223372036854775807) (m2 : l2 ≤ 9223372036854775807) (m3 : l3 ≤ 9223372036854775807) (m4 : l4 ≤ 9223372036854775807) (m5 : l5 ≤ 9223372036854775807) :
    Calls Try.prog 7 #[.slice a0 l0 c0, .slice a1 l1 c1, .slice a2 l2 c2, .slice a3 l3 c3, .slice a4 l4 c4, .slice a5 l5 c5] w fun e w' => ∃ b, e = .returned (.bool b) ∧ (b = true → l0 + l1 + l2 + l3 + l4 + l5 ≤ 1048576) ∧ w = w' := by
  refine hidR fun R HR => ?_
  go_enter Try.func7, Try.ntmps7
  go_wp2
  all_goals first
    | exact HR.out _ _ ⟨false, rfl, by simp, rfl⟩
    | exact HR.out _ _ ⟨true, rfl, fun _ => by omega, rfl⟩

theorem sort18 (be bs n : Nat) (F : Flds) (w : World) (hn : n ≤ 1048576) (h0 : 0 < n) (hF : F.Ok n) (he : Ent w be n F (fun _ => True) (fun p => p)) (hs : Ent w bs n F (fun _ => False) (fun p => p)) (hne : be ≠ bs) :
    Calls Try.prog 18 #[.slice (some ⟨be, 0, none⟩) n n, .slice (some ⟨bs, 0, none⟩) n n] w fun e w' => e = .returned (.tuple #[]) ∧ Ent w' be n F (fun _ => True) (od F.K n) ∧ Fr w w' be bs := by
  refine hidR fun R HR => ?_
  have C := hide (sort32 be bs n F w hn h0 hF he hs hne)
  clear hF he hs
  go_enter Try.func18, Try.ntmps18
  go_wp2_with (go_at_call 32; refine (unhide C).mono ?_; rintro e w5 ⟨rfl, h1, h2⟩)
  go_returns
  exact HR.out _ _ ⟨rfl, h1, h2⟩

theorem make12' (x y p : Int) (b : Bool) (w : World) :
    Calls Try.prog 12 #[.int .u64 x, .int .u8 y, .bool b, .int .i32 p] w fun e w' => e = .returned (.agg #[.int .u64 x, .int .u8 y, .bool b, .int .i32 p]) ∧ w.alloc (.cells #[.int .u64 x, .int .u8 y, .bool b, .int .i32 p] 34) = w' := by
  refine hidR fun R HR => ?_
  go_enter Try.func12, Try.ntmps12
  go_wp2
  refine bodyPost_ret (v := .agg #[.int .u64 x, .int .u8 y, .bool b, .int .i32 p]) (by simp [results, Try.results12, go_sem]) rfl ?_
  exact HR.out _ _ ⟨rfl, rfl⟩

theorem info34 : (Try.prog.info? 34).map (fun i => (i.zero, i.size, i.bytes)) = some (some (.agg #[.int .u64 0, .int .u8 0, .bool false, .int .i32 0]), 4, 16) := by kernel_rfl
theorem info3 : (Try.prog.info? 3).map (fun i => (i.zero, i.size, i.bytes)) = some (some (.int .i64 0), 1, 8) := by kernel_rfl

/-- What make lays for n entries. -/
def ZE (n : Nat) : Array Value := madeCells #[.int .u64 0, .int .u8 0, .bool false, .int .i32 0] (n * 4)
theorem make31 (n : Nat) (hn : n ≤ 1048576) (w : World) : (Instr.makeSlice 31 (.int .i64 (n : Int)) (.int .i64 (n : Int))).run Try.prog w = .ok (.slice (some ⟨w.heap.size, 0, none⟩) n n) (w.alloc (.cells (ZE n) 34)) := by
  obtain ⟨i, hi, hz⟩ := Option.map_eq_some_iff.1 info34
  simp only [Prod.mk.injEq] at hz
  obtain ⟨h1, h2, h3⟩ := hz
  have hr := run_make (P := Try.prog) w 31 34 i _ Try.underlying31 hi h1 .i64 .i64 n n (by omega) (Int.le_refl _) (by rw [h3]; omega) (by omega)
  simp only [Int.toNat_natCast, h2] at hr
  exact hr
theorem ent_new (w : World) (n : Nat) (F : Flds) (o : Nat → Nat) : Ent (w.alloc (.cells (ZE n) 34)) w.heap.size n F (fun _ => False) o := by
  have h := World.rowIs_alloc w (ZE n) 34 (fun i => (ZE n)[i]?.getD undef) (fun i hi => by simp [hi])
  rw [show (ZE n).size = n * 4 from size_madeCells _ _] at h
  exact ⟨_, h, fun _ _ hf => hf.elim⟩

/-- Block b holds n numbers; those at the places of S are told. -/
def Ord (w : World) (b n : Nat) (S : Nat → Prop) (o : Nat → Nat) : Prop :=
  ∃ g, w.rowIs b 3 n g ∧ ∀ p, p < n → S p → g p = .int .i64 (o p : Nat)
theorem Ord.cell {w : World} {b n : Nat} {S : Nat → Prop} {o : Nat → Nat} (h : Ord w b n S o) {p : Nat} (hp : p < n) (hs : S p) : w.cell? ⟨b, p, none⟩ = some (.int .i64 (o p : Nat)) := by
  obtain ⟨g, hr, hg⟩ := h
  rw [hr.cell hp, hg p hp hs]
theorem Ord.free {w : World} {b n : Nat} {S : Nat → Prop} {o : Nat → Nat} (h : Ord w b n S o) {p : Nat} (hp : p < n) : w.frozen? ⟨b, p, none⟩ = false ∧ ∃ u, w.cell? ⟨b, p, none⟩ = some u := by
  obtain ⟨g, hr, hg⟩ := h
  exact ⟨hr.frozen p, _, hr.cell hp⟩
theorem Ord.of_block {w w' : World} {b n : Nat} {S : Nat → Prop} {o : Nat → Nat} (h : Ord w b n S o) (e : w'.heap[b]? = w.heap[b]?) : Ord w' b n S o := by
  obtain ⟨g, hr, hg⟩ := h
  exact ⟨g, hr.of_block e, hg⟩
theorem Ord.lt {w : World} {b n : Nat} {S : Nat → Prop} {o : Nat → Nat} (h : Ord w b n S o) : b < w.heap.size := by
  obtain ⟨g, hr, hg⟩ := h
  exact hr.lt
theorem Ord.more {w w' : World} {b n : Nat} {S : Nat → Prop} {o : Nat → Nat} (h : Ord w b n S o) (hg : w.grownBy w' none) : Ord w' b n S o := h.of_block (hg.block b h.lt (by simp))
theorem Ord.setOther {w : World} {b n : Nat} {S : Nat → Prop} {o : Nat → Nat} (h : Ord w b n S o) {a : Addr} (ha : b ≠ a.block) (v : Value) : Ord (w.setCell a v) b n S o := h.of_block (heap_setCell_other w a b v ha)
theorem Ord.weak {w : World} {b n : Nat} {S S' : Nat → Prop} {o o' : Nat → Nat} (h : Ord w b n S o) (hS : ∀ p, p < n → S' p → S p ∧ o p = o' p) : Ord w b n S' o' := by
  obtain ⟨g, hr, hg⟩ := h
  exact ⟨g, hr, fun p hp hs => by rw [hg p hp (hS p hp hs).1, (hS p hp hs).2]⟩
/-- The next number is stored. -/
theorem Ord.put {w : World} {b n k : Nat} {o : Nat → Nat} (h : Ord w b n (fun p => p < k) o) (x : Int) (hx : x = (o k : Nat)) : Ord (w.setCell ⟨b, k, none⟩ (.int .i64 x)) b n (fun p => p < k + 1) o := by
  obtain ⟨g, hr, hg⟩ := h
  refine ⟨_, hr.set k (.int .i64 x), fun p hp hs => ?_⟩
  by_cases e : p = k
  · subst e; simp [hx]
  · rw [if_neg e]
    exact hg p hp (by have : p < k + 1 := hs; show p < k; omega)
theorem ord_new (w : World) (n : Nat) (o : Nat → Nat) : Ord (w.alloc (.cells (madeCells #[.int .i64 0] n) 3)) w.heap.size n (fun p => p < 0) o :=
  ⟨_, World.rowIs_made w _ n 3, fun _ _ hf => absurd hf (by omega)⟩

/-- What holds while the law's own order is made: B is the first block behind the clones. -/
structure Sst (w6 wr : World) (n : Nat) (F : Flds) (S : Nat → Prop) : Prop where
  e : Ent wr w6.heap.size n F S (fun p => p)
  s : Ent wr (w6.heap.size + 1) n F (fun _ => False) (fun p => p)
  bel : Below w6.heap.size w6 wr
theorem Sst.more {w6 wr w' : World} {n : Nat} {F : Flds} {S : Nat → Prop} (h : Sst w6 wr n F S) (g : wr.grownBy w' none) : Sst w6 w' n F S :=
  ⟨h.e.more g, h.s.more g, h.bel.grown g h.bel.size (by simp)⟩
theorem Sst.set {w6 wr : World} {n : Nat} {F : Flds} {S : Nat → Prop} (h : Sst w6 wr n F S) {b k : Nat} (hb : w6.heap.size + 1 < b) (v : Value) : Sst w6 (wr.setCell ⟨b, k, none⟩ v) n F S :=
  ⟨h.e.setOther (by simp only; omega) v, h.s.setOther (by simp only; omega) v, h.bel.setCell (by simp only; omega) v⟩
theorem Sst.drewN {w6 wr : World} {n : Nat} {F : Flds} {S : Nat → Prop} (h : Sst w6 wr n F S) (k : Nat) : Sst w6 (wr.drewN k) n F S := h.more (grown_drew (World.grownBy.refl wr none) k)

theorem sst_new (w6 : World) (n : Nat) (F : Flds) : Sst w6 ((w6.alloc (.cells (ZE n) 34)).alloc (.cells (ZE n) 34)) n F (fun p => p < 0) := by
  have g1 := World.grownBy_alloc w6 (.cells (ZE n) 34) none
  have g2 := World.grownBy_alloc (w6.alloc (.cells (ZE n) 34)) (.cells (ZE n) 34) none
  refine ⟨((ent_new w6 n F (fun p => p)).more g2).weak fun p _ hf => absurd hf (by omega), ?_, below_of_grown (g1.trans g2) (Nat.le_refl _)⟩
  have := ent_new (w6.alloc (.cells (ZE n) 34)) n F (fun p => p)
  simpa using this

/-- Entry k is laid, then the k-th of the scratch. -/
theorem Sst.lay {w6 wr : World} {n k : Nat} {F : Flds} (h : Sst w6 wr n F (fun p => p < k)) (hk : k < n) (o : Obj) {x y p : Int} {b : Bool} (hx : x = (F.W k : Nat)) (hy : y = (F.L k : Nat)) (hb : b = F.D k) (hp : p = F.P k) :
    Sst w6 (((((wr.setCell ⟨w6.heap.size, k * 4, none⟩ (.int .u64 x)).setCell ⟨w6.heap.size, k * 4 + 1, none⟩ (.int .u8 y)).setCell ⟨w6.heap.size, k * 4 + 2, none⟩ (.bool b)).setCell ⟨w6.heap.size, k * 4 + 3, none⟩ (.int .i32 p)).alloc o).drew n F (fun p => p < k + 1) := by
  subst hx hy hb hp
  have hB := Nat.le_refl w6.heap.size
  have hn : w6.heap.size + 1 ≠ w6.heap.size := by omega
  have h4 : Sst w6 ((((wr.setCell ⟨w6.heap.size, k * 4, none⟩ (.int .u64 (F.W k : Nat))).setCell ⟨w6.heap.size, k * 4 + 1, none⟩ (.int .u8 (F.L k : Nat))).setCell ⟨w6.heap.size, k * 4 + 2, none⟩ (.bool (F.D k))).setCell ⟨w6.heap.size, k * 4 + 3, none⟩ (.int .i32 (F.P k))) n F (fun p => p < k + 1) := by
    refine ⟨(h.e.put hk k).weak fun p hp hs => ?_, (((h.s.setOther hn _).setOther hn _).setOther hn _).setOther hn _, (((h.bel.setCell hB _).setCell hB _).setCell hB _).setCell hB _⟩
    have hs' : p < k + 1 := hs
    by_cases e : p = k
    · exact ⟨.inl e, by rw [if_pos e, e]⟩
    · exact ⟨.inr (by show p < k; omega), if_neg e⟩
  exact (h4.more (World.grownBy_alloc _ o none)).more (drew_grown (World.grownBy.refl _ _))
theorem Sst.lay2 {w6 wr : World} {n k : Nat} {F : Flds} {S : Nat → Prop} (h : Sst w6 wr n F S) (hk : k < n) (o : Obj) (v0 v1 v2 v3 : Value) :
    Sst w6 (((((wr.setCell ⟨w6.heap.size + 1, k * 4, none⟩ v0).setCell ⟨w6.heap.size + 1, k * 4 + 1, none⟩ v1).setCell ⟨w6.heap.size + 1, k * 4 + 2, none⟩ v2).setCell ⟨w6.heap.size + 1, k * 4 + 3, none⟩ v3).alloc o) n F S := by
  have hB := Nat.le_succ w6.heap.size
  have hn : w6.heap.size ≠ w6.heap.size + 1 := by omega
  refine Sst.more ?_ (World.grownBy_alloc _ o none)
  refine ⟨(((h.e.setOther hn _).setOther hn _).setOther hn _).setOther hn _, ?_, (((h.bel.setCell hB _).setCell hB _).setCell hB _).setCell hB _⟩
  obtain ⟨g, hr, _⟩ := h.s
  exact ⟨_, (((hr.set (k * 4) v0).set (k * 4 + 1) v1).set (k * 4 + 2) v2).set (k * 4 + 3) v3, fun _ _ hf => hf.elim⟩

theorem cell_below {B : Nat} {w6 wr : World} {b k : Nat} {u : Value} (h : Below B w6 wr) (hc : w6.cell? ⟨b, k, none⟩ = some u) (hb : b < B) : wr.cell? ⟨b, k, none⟩ = some u := by
  have e := h.block b hb
  unfold World.cell? at hc ⊢
  rw [show wr.heap[b]? = w6.heap[b]? from e]
  exact hc
theorem sl_below {w6 wr : World} {v : Value} {n : Nat} {f : Nat → Value} (h : Sl w6 v n f) (hb : Below w6.heap.size w6 wr) : Sl wr v n f := by
  rcases h with h | ⟨g, cap, rfl, hc⟩
  · exact .inl h
  · exact .inr ⟨g, cap, rfl, fun i hi => cell_below hb (hc i hi) (World.block_lt_of_cell? w6 _ (hc i hi))⟩
theorem rows_below {w6 wr : World} {g n : Nat} {f : Nat → Value} (h : ∀ i, i < n → w6.cell? ⟨g, i, none⟩ = some (f i)) (hb : Below w6.heap.size w6 wr) : ∀ i, i < n → wr.cell? ⟨g, i, none⟩ = some (f i) :=
  fun i hi => cell_below hb (h i hi) (World.block_lt_of_cell? w6 _ (h i hi))
theorem cell_keep4a {w : World} {G b k i0 i1 i2 i3 : Nat} {u v0 v1 v2 v3 : Value} {o : Obj} (h : w.cell? ⟨b, k, none⟩ = some u) (hn : b ≠ G) :
    (((((w.setCell ⟨G, i0, none⟩ v0).setCell ⟨G, i1, none⟩ v1).setCell ⟨G, i2, none⟩ v2).setCell ⟨G, i3, none⟩ v3).alloc o).drew.cell? ⟨b, k, none⟩ = some u := by
  have h1 := cell_set_far (a := ⟨G, i0, none⟩) (v := v0) h hn
  have h2 := cell_set_far (a := ⟨G, i1, none⟩) (v := v1) h1 hn
  have h3 := cell_set_far (a := ⟨G, i2, none⟩) (v := v2) h2 hn
  have h4 := cell_set_far (a := ⟨G, i3, none⟩) (v := v3) h3 hn
  generalize (((w.setCell ⟨G, i0, none⟩ v0).setCell ⟨G, i1, none⟩ v1).setCell ⟨G, i2, none⟩ v2).setCell ⟨G, i3, none⟩ v3 = x at *
  show (x.alloc o).cell? ⟨b, k, none⟩ = some u
  exact (World.grownBy_alloc x o none).cell h4 (by simp)

/-! The merge of two blocks, by the places. -/
theorem mrg_left (f : Nat → Nat) {n W lo x : Nat} (hlo : lo % W = 0) (hx : x < min W (n - lo)) : (So f lo (min W (n - lo))).getD x 0 = bk f n W (lo + x) := by
  rw [bk_in f hlo (by omega) (by omega), show lo + x - lo = x by omega]
theorem mrg_right (f : Nat → Nat) {n W lo a y : Nat} (hlo : lo % W = 0) (ha : a = min W (n - lo)) (hy : y < min W (n - (lo + a))) : (So f (lo + a) (min W (n - (lo + a)))).getD y 0 = bk f n W (lo + a + y) := by
  have hW : a = W := by omega
  rw [bk_in f (lo := lo + a) (by rw [hW, Nat.add_mod_right]; exact hlo) (by omega) (by omega), show lo + a + y - (lo + a) = y by omega]
theorem mrg_both (f : Nat → Nat) {n W lo a b z : Nat} (hlo : lo % (2 * W) = 0) (ha : a = min W (n - lo)) (hb : b = min W (n - (lo + a))) (hz : z < a + b) : (So f lo (a + b)).getD z 0 = bk f n (2 * W) (lo + z) := by
  rw [bk_in f hlo (by omega) (by omega), show lo + z - lo = z by omega, show min (2 * W) (n - lo) = a + b by omega]
theorem mrg_start (f : Nat → Nat) (lo a b : Nat) : Mg f (So f lo a) (So f (lo + a) b) (So f lo (a + b)) 0 0 :=
  ⟨by rw [List.drop_zero, List.drop_zero, So_merge, List.drop_zero]⟩
theorem mod_half {lo W : Nat} (h : lo % (2 * W) = 0) : lo % W = 0 := by
  have h1 := Nat.mod_mod_of_dvd lo (Nat.dvd_mul_left W 2)
  rw [← h1, h]
  exact Nat.zero_mod _
end Go.Proofs.Qxb6600216a
