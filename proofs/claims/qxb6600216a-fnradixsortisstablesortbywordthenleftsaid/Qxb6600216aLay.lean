import Derived.Test.Qxb6600216aRuns
import Derived.Deep.RegionHeld3
import Derived.Deep.CutRange
namespace Go.Proofs.Qxb6600216a
open Go.RowKit

theorem info48 : (Try.prog.info? 48).map (fun i => (i.zero, i.size, i.bytes)) = some (some (.agg #[.int .i32 0, .int .i32 0, .int .i32 0]), 3, 12) := by kernel_rfl

/-- A slice of int32 that came in: its numbers. -/
def Ints (k : IntKind) (w : World) (a : Option Addr) (len : Nat) (zs : List Int) : Prop := Cells w a len (zs.map (Value.int k))

theorem owns_form {w : World} {base e size n : Nat} {v : Value} {xs : List Value} (h : w.ownsRow base e size v n xs) : ∃ ao cap, v = .slice ao n cap := by
  rcases h.2 with ⟨rfl, rfl⟩ | ⟨g, cap, cur, rfl, _⟩
  · exact ⟨_, _, rfl⟩
  · exact ⟨_, _, rfl⟩

theorem owns_at {w : World} {base e n k cap : Nat} {ao : Option Addr} {q : IntKind} {zs : List Int} (h : w.ownsRow base e 1 (.slice ao n cap) n (zs.map (Value.int q))) (hk : k < n) :
    ∃ g, ao = some ⟨g, 0, none⟩ ∧ w.cell? ⟨g, k, none⟩ = some (.int q (zs.getD k 0)) := by
  have hl : zs.length = n := by simpa using h.1
  rcases h.2 with ⟨e, h0⟩ | ⟨g, cap', cur, e, _⟩
  · omega
  · simp only [Value.slice.injEq] at e
    obtain ⟨rfl, _, rfl⟩ := e
    refine ⟨g, rfl, ?_⟩
    rw [h.cellAt k (by omega)]
    simp [List.getD, show k < zs.length by omega]

/-- The first k of the runs are laid. -/
def Laid (xs : List Value) (A F E : Nat → Int) (k : Nat) : Prop :=
  ∀ j, j < k → xs[j * 3]? = some (.int .i32 (A j)) ∧ xs[j * 3 + 1]? = some (.int .i32 (F j)) ∧ xs[j * 3 + 2]? = some (.int .i32 (E j))

theorem laid_step {xs : List Value} {A F E : Nat → Int} {k n : Nat} (h : Laid xs A F E k) (hl : xs.length = n * 3) (hk : k < n) :
    Laid (((xs.set (k * 3) (.int .i32 (A k))).set (k * 3 + 1) (.int .i32 (F k))).set (k * 3 + 2) (.int .i32 (E k))) A F E (k + 1) := by
  intro j hj
  by_cases e : j = k
  · subst e
    simp only [List.getElem?_set, List.length_set]
    refine ⟨?_, ?_, ?_⟩
    · rw [if_neg (by omega), if_neg (by omega), if_pos trivial, if_pos (by omega)]
    · rw [if_neg (by omega), if_pos trivial, if_pos (by omega)]
    · rw [if_pos trivial, if_pos (by omega)]
  · obtain ⟨h1, h2, h3⟩ := h j (by omega)
    simp only [List.getElem?_set, List.length_set]
    refine ⟨?_, ?_, ?_⟩
    · rw [if_neg (by omega), if_neg (by omega), if_neg (by omega)]; exact h1
    · rw [if_neg (by omega), if_neg (by omega), if_neg (by omega)]; exact h2
    · rw [if_neg (by omega), if_neg (by omega), if_neg (by omega)]; exact h3

/-- What holds while the runs are laid. -/
structure Lay (w wr : World) (G : Nat) (va vf ve : Value) (l0 l1 l2 n : Nat) (za zf ze : List Int) (k : Nat) : Prop where
  a : wr.ownsRow w.heap.size 21 1 va l0 (za.map (Value.int .i32))
  f : wr.ownsRow w.heap.size 21 1 vf l1 (zf.map (Value.int .i32))
  e : wr.ownsRow w.heap.size 21 1 ve l2 (ze.map (Value.int .i32))
  r : ∃ xs, wr.ownsRow w.heap.size 48 3 (.slice (some ⟨G, 0, none⟩) n n) n xs ∧ Laid xs (fun j => za.getD j 0) (fun j => zf.getD j 0) (fun j => ze.getD j 0) k
  low : w.heap.size ≤ G
  below : Below w.heap.size w wr

theorem Lay.drewN {w wr : World} {G : Nat} {va vf ve : Value} {l0 l1 l2 n : Nat} {za zf ze : List Int} {k : Nat} (h : Lay w wr G va vf ve l0 l1 l2 n za zf ze k) (m : Nat) : Lay w (wr.drewN m) G va vf ve l0 l1 l2 n za zf ze k :=
  ⟨h.a, h.f, h.e, h.r, h.low, ⟨h.below.os, h.below.tape, h.below.output, h.below.size, h.below.block⟩⟩

theorem rows_ne {w : World} {b b' e e' z z' n n' S : Nat} {v : Value} {xs ys : List Value} {cap : Nat} (h : w.ownsRow b e z v n xs) (h' : w.ownsRow b' e' z' (.slice (some ⟨S, 0, none⟩) n' cap) n' ys) (hne : e ≠ e') : v.ownBlock ≠ some S := by
  intro hv
  rcases h'.2 with ⟨e1, _⟩ | ⟨g, cap', cur, e1, _, hg, _⟩
  · cases e1
  · cases e1
    rcases h.2 with ⟨rfl, _⟩ | ⟨g2, cap2, cur2, rfl, _, hg2, _⟩
    · simp [Value.ownBlock] at hv
    · simp [Value.ownBlock] at hv
      subst hv
      rw [hg] at hg2
      simp at hg2
      exact hne hg2.2.symm

theorem Lay.step {w wr : World} {G : Nat} {va vf ve : Value} {l0 l1 l2 n : Nat} {za zf ze : List Int} {k : Nat} (h : Lay w wr G va vf ve l0 l1 l2 n za zf ze k) (hk : k < n) (o : Obj) {xa xf xe : Int} (ea : xa = za.getD k 0) (ef : xf = zf.getD k 0) (ee : xe = ze.getD k 0) :
    Lay w ((((wr.setCell ⟨G, k * 3, none⟩ (.int .i32 xa)).setCell ⟨G, k * 3 + 1, none⟩ (.int .i32 xf)).setCell ⟨G, k * 3 + 2, none⟩ (.int .i32 xe)).alloc o).drew G va vf ve l0 l1 l2 n za zf ze (k + 1) := by
  subst ea ef ee
  obtain ⟨xs, hr, hl⟩ := h.r
  have r1 := hr.stored (k * 3) (.int .i32 (za.getD k 0))
  have r2 := r1.1.stored (k * 3 + 1) (.int .i32 (zf.getD k 0))
  have r3 := r2.1.stored (k * 3 + 2) (.int .i32 (ze.getD k 0))
  have g : wr.grownBy (((wr.setCell ⟨G, k * 3, none⟩ (.int .i32 (za.getD k 0))).setCell ⟨G, k * 3 + 1, none⟩ (.int .i32 (zf.getD k 0))).setCell ⟨G, k * 3 + 2, none⟩ (.int .i32 (ze.getD k 0))) (some G) := (r1.2.trans r2.2).trans r3.2
  refine ⟨((h.a).kept g (.inr (rows_ne h.a hr (by decide)))).alloc o, ((h.f).kept g (.inr (rows_ne h.f hr (by decide)))).alloc o, ((h.e).kept g (.inr (rows_ne h.e hr (by decide)))).alloc o, ⟨_, r3.1.alloc o, laid_step hl hr.1 hk⟩, h.low, ?_⟩
  exact (((h.below).grown g h.below.size (fun j hj => by cases hj; exact h.low)).alloc (by have := h.below.size; simp; omega) o).drew

theorem Lay.free {w wr : World} {G : Nat} {va vf ve : Value} {l0 l1 l2 n : Nat} {za zf ze : List Int} {k : Nat} (h : Lay w wr G va vf ve l0 l1 l2 n za zf ze k) (hk : k < n) :
    (∀ j, wr.frozen? ⟨G, j, none⟩ = false) ∧ G < wr.heap.size ∧ ∃ u0 u1 u2, wr.cell? ⟨G, k * 3, none⟩ = some u0 ∧ wr.cell? ⟨G, k * 3 + 1, none⟩ = some u1 ∧ wr.cell? ⟨G, k * 3 + 2, none⟩ = some u2 := by
  obtain ⟨xs, hr, _⟩ := h.r
  have hl := hr.1
  refine ⟨fun j => hr.frozenAt j, (hr.lt G rfl).2, xs[k * 3]'(by omega), xs[k * 3 + 1]'(by omega), xs[k * 3 + 2]'(by omega), ?_, ?_, ?_⟩ <;> rw [hr.cellAt _ (by omega), List.getElem?_eq_getElem]

theorem Lay.ne_a {w wr : World} {G ga ca : Nat} {vf ve : Value} {l0 l1 l2 n : Nat} {za zf ze : List Int} {k : Nat} (h : Lay w wr G (.slice (some ⟨ga, 0, none⟩) l0 ca) vf ve l0 l1 l2 n za zf ze k) : ga ≠ G := by
  obtain ⟨xs, hr, _⟩ := h.r
  have := rows_ne h.a hr (by decide)
  exact fun e => this (by simp [Value.ownBlock, e])
theorem Lay.ne_f {w wr : World} {G ga ca : Nat} {va ve : Value} {l0 l1 l2 n : Nat} {za zf ze : List Int} {k : Nat} (h : Lay w wr G va (.slice (some ⟨ga, 0, none⟩) l1 ca) ve l0 l1 l2 n za zf ze k) : ga ≠ G := by
  obtain ⟨xs, hr, _⟩ := h.r
  have := rows_ne h.f hr (by decide)
  exact fun e => this (by simp [Value.ownBlock, e])
theorem Lay.ne_e {w wr : World} {G ga ca : Nat} {va vf : Value} {l0 l1 l2 n : Nat} {za zf ze : List Int} {k : Nat} (h : Lay w wr G va vf (.slice (some ⟨ga, 0, none⟩) l2 ca) l0 l1 l2 n za zf ze k) : ga ≠ G := by
  obtain ⟨xs, hr, _⟩ := h.r
  have := rows_ne h.e hr (by decide)
  exact fun e => this (by simp [Value.ownBlock, e])

theorem cell_keep3 {wr : World} {G ga k i j l : Nat} {v x y z : Value} {o : Obj} (h : wr.cell? ⟨ga, k, none⟩ = some v) (hn : ga ≠ G) :
    ((((wr.setCell ⟨G, i, none⟩ x).setCell ⟨G, j, none⟩ y).setCell ⟨G, l, none⟩ z).alloc o).drew.cell? ⟨ga, k, none⟩ = some v := by
  have hb := World.block_lt_of_cell? wr _ h
  show ((((wr.setCell ⟨G, i, none⟩ x).setCell ⟨G, j, none⟩ y).setCell ⟨G, l, none⟩ z).alloc o).cell? ⟨ga, k, none⟩ = some v
  rw [World.cell?_of_block (w := wr) (a := ⟨ga, k, none⟩) ?_]
  · exact h
  · show ((((wr.setCell ⟨G, i, none⟩ x).setCell ⟨G, j, none⟩ y).setCell ⟨G, l, none⟩ z).alloc o).heap[ga]? = wr.heap[ga]?
    rw [heap_alloc_old _ _ (by simpa using hb), heap_setCell_other _ _ _ _ hn, heap_setCell_other _ _ _ _ hn, heap_setCell_other _ _ _ _ hn]

theorem Lay.runs {w wr : World} {G : Nat} {va vf ve : Value} {l0 l1 l2 n : Nat} {za zf ze : List Int} (h : Lay w wr G va vf ve l0 l1 l2 n za zf ze n) (s : Nat) (hs : s ≤ n) :
    RunsAt wr (some ⟨G, s * 3, none⟩) (n - s) (fun j => za.getD (s + j) 0) (fun j => zf.getD (s + j) 0) (fun j => ze.getD (s + j) 0) := by
  obtain ⟨xs, hr, hl⟩ := h.r
  intro k hk
  refine ⟨G, s * 3, rfl, fun j hj => ?_⟩
  obtain ⟨h1, h2, h3⟩ := hl (s + j) (by omega)
  rw [hr.cellAt _ (by omega), hr.cellAt _ (by omega), hr.cellAt _ (by omega)]
  rw [show s * 3 + j * 3 = (s + j) * 3 by omega]
  exact ⟨h1, h2, h3⟩

theorem Lay.runs0 {w wr : World} {G : Nat} {va vf ve : Value} {l0 l1 l2 n : Nat} {za zf ze : List Int} (h : Lay w wr G va vf ve l0 l1 l2 n za zf ze n) :
    RunsAt wr (some ⟨G, 0, none⟩) n (fun j => za.getD j 0) (fun j => zf.getD j 0) (fun j => ze.getD j 0) := by
  have := h.runs 0 (Nat.zero_le _)
  simpa using this

theorem bend_facts {A S : Nat → Int} {len k : Nat} {f : Bool} (h : BEnd A S len k f) (h0 : 0 < len) : 1 ≤ k ∧ k ≤ len ∧ (k = len ∨ A k ≠ A (k - 1)) ∧ (f = true → A 0 ≠ A (k - 1)) := by
  obtain ⟨n, hn, hpos, _, hr⟩ := h
  rcases hr with ⟨h1, rfl, rfl⟩ | ⟨rfl, rfl, hk, hall, hx⟩
  · exact ⟨h1, hn, (hpos h1).1, by simp⟩
  · have h1 : 1 ≤ k := by
      rcases hx with e | e
      · omega
      · rcases Nat.eq_zero_or_pos k with z | z
        · rw [z] at e; exact absurd rfl e
        · exact z
    refine ⟨h1, hk, ?_, by simp⟩
    rcases hx with e | e
    · exact .inl e
    · exact .inr (by rw [hall (k - 1) (by omega)]; exact e)

set_option maxHeartbeats 400000 in
theorem bend22 (a : Option Addr) (len cap : Nat) (A F E S : Nat → Int) (w : World) (h : RunsAt w a len A F E) (hm : len ≤ 65536) (hS : ∀ j, wrap32 (E j - F j) = S j) :
    Calls Try.prog 22 #[.slice a len cap] w fun e w' => ∃ (k : Nat) (f : Bool), e = .returned (.tuple #[.int .i64 k, .bool f]) ∧ BEnd A S len k f ∧ ∃ nq, w.drewN nq = w' := by
  refine hidR fun R HR => ?_
  have C := hide (bend33 a len cap A F E S w h hm hS)
  clear h hS
  go_enter Try.func22, Try.ntmps22
  go_wp2_with (go_at_call 33; refine (unhide C).mono ?_; rintro e w' ⟨k, f, rfl, h1, nq, rfl⟩)
  exact HR.out _ _ ⟨k, f, rfl, h1, nq, rfl⟩

theorem clone_keep {w w1 : World} {a : Option Addr} {len : Nat} {vs : List Value} (h : Cells w a len vs) (hg : w.grownBy w1 none) : Cells w1 a len vs := by
  refine ⟨h.1, h.2.1, fun k hk => ?_⟩
  obtain ⟨b, off, hx, hb, hc⟩ := h.2.2 k hk
  refine ⟨b, off, hx, Nat.lt_of_lt_of_le hb hg.size, fun j hj => ?_⟩
  rw [World.cell?_of_block (hg.block b hb (by simp))]
  exact hc j hj

theorem owns_low {w : World} {b b' e size n : Nat} {v : Value} {xs : List Value} (h : w.ownsRow b e size v n xs) (hb : b' ≤ b) : w.ownsRow b' e size v n xs := by
  refine ⟨h.1, ?_⟩
  rcases h.2 with hn | ⟨g, cap, cur, rfl, hg, r⟩
  · exact .inl hn
  · exact .inr ⟨g, cap, cur, rfl, Nat.le_trans hb hg, r⟩

theorem owns_keep {w w1 : World} {b e size n : Nat} {v : Value} {xs : List Value} (h : w.ownsRow b e size v n xs) (hg : w.grownBy w1 none) : w1.ownsRow b e size v n xs := h.kept hg (by cases v.ownBlock <;> simp)

theorem lay_start {w w1 w2 w3 w4 : World} {va vf ve : Value} {l0 l1 l2 n : Nat} {za zf ze : List Int} {xs : List Value} (ha : w1.ownsRow w.heap.size 21 1 va l0 (za.map (Value.int .i32))) (ga : w.grownBy w1 none)
    (hf : w2.ownsRow w1.heap.size 21 1 vf l1 (zf.map (Value.int .i32))) (gf : w1.grownBy w2 none) (he : w3.ownsRow w2.heap.size 21 1 ve l2 (ze.map (Value.int .i32))) (ge : w2.grownBy w3 none)
    (hr : w4.ownsRow w.heap.size 48 3 (.slice (some ⟨w3.heap.size, 0, none⟩) n n) n xs) (gr : w3.grownBy w4 none) : Lay w w4 w3.heap.size va vf ve l0 l1 l2 n za zf ze 0 := by
  have s1 := ga.size
  have s2 := gf.size
  have s3 := ge.size
  exact ⟨owns_keep (owns_keep (owns_keep ha gf) ge) gr, owns_keep (owns_keep (owns_low hf s1) ge) gr, owns_keep (owns_low he (by omega)) gr, ⟨xs, hr, fun j hj => absurd hj (by omega)⟩, by omega,
    (((below_of_grown ga (Nat.le_refl _)).trans (below_of_grown gf s1)).trans (below_of_grown ge (by omega))).trans (below_of_grown gr (by omega))⟩
end Go.Proofs.Qxb6600216a
