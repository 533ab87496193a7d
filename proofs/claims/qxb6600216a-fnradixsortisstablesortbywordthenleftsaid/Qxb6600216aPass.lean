import Derived.Test.Qxb6600216aEnt
namespace Go.Proofs.Qxb6600216a
open Go.RowKit
set_option linter.unusedVariables false

/-- The counts behind m entries, and of one entry more for the digits below d. -/
def ctv (F : Flds) (m d x : Nat) : Int := if x / 256 < d then (cnt F.K (x / 256) (m + 1) (x % 256) : Nat) else (cnt F.K (x / 256) m (x % 256) : Nat)

theorem ctv_step (F : Flds) (m d x : Nat) : ctv F m (d + 1) x = if x = d * 256 + dg F.K d m then (cnt F.K d m (dg F.K d m) : Int) + 1 else ctv F m d x := by
  have hv := dg_lt F.K d m
  unfold ctv
  by_cases e : x = d * 256 + dg F.K d m
  · have h1 : x / 256 = d := by omega
    have h2 : x % 256 = dg F.K d m := by omega
    rw [if_pos e, h1, h2, if_pos (by omega), cnt_succ, if_pos rfl]
    exact Int.natCast_add _ _
  · rw [if_neg e]
    by_cases hd : x / 256 = d
    · have h2 : ¬ x % 256 = dg F.K d m := by omega
      rw [hd, if_pos (by omega), if_neg (by omega), cnt_succ, if_neg h2]
      rfl
    · by_cases hl : x / 256 < d
      · rw [if_pos hl, if_pos (by omega)]
      · rw [if_neg hl, if_neg (by omega)]
theorem ctv_at (F : Flds) (m d v : Nat) (hv : v < 256) : ctv F m d (d * 256 + v) = (cnt F.K d m v : Nat) := by
  unfold ctv
  rw [show (d * 256 + v) / 256 = d by omega, show (d * 256 + v) % 256 = v by omega, if_neg (by omega)]
theorem ctv_all (F : Flds) (m x : Nat) (hx : x < 2304) : ctv F m 9 x = ctv F (m + 1) 0 x := by
  unfold ctv
  rw [if_pos (by omega), if_neg (by omega)]
theorem ctv_zero (F : Flds) (x : Nat) : ctv F 0 0 x = 0 := by
  unfold ctv
  rw [if_neg (by omega), cnt_zero]
  rfl
theorem counts_new (F : Flds) (w : World) : (w.alloc (.cells Z70 70)).rowIs w.heap.size 70 2304 (fun x => .int .i64 (ctv F 0 0 x)) := by
  have h := World.rowIs_alloc w Z70 70 (fun x => .int .i64 (ctv F 0 0 x)) (fun i hi => by rw [z70 i hi, ctv_zero])
  rwa [z70_size] at h
theorem ctv_nn (F : Flds) (m d v : Nat) : (cnt F.K d m v : Int) ≤ m := by have := cnt_le F.K d m v; omega

/-- A copy of entry q. -/
def Box (w : World) (b : Nat) (F : Flds) (q : Nat) : Prop :=
  w.cell? ⟨b, 0, none⟩ = some (.int .u64 (F.W q : Nat)) ∧ w.cell? ⟨b, 1, none⟩ = some (.int .u8 (F.L q : Nat)) ∧ w.cell? ⟨b, 2, none⟩ = some (.bool (F.D q)) ∧ w.cell? ⟨b, 3, none⟩ = some (.int .i32 (F.P q))
theorem Box.kept {w w' : World} {b q : Nat} {F : Flds} (hg : w.grownBy w' none) (h : Box w b F q) : Box w' b F q :=
  ⟨hg.cell h.1 (by simp), hg.cell h.2.1 (by simp), hg.cell h.2.2.1 (by simp), hg.cell h.2.2.2 (by simp)⟩
theorem Box.set {w : World} {b q s k : Nat} {F : Flds} {v : Value} (hn : b ≠ s) (h : Box w b F q) : Box (w.setCell ⟨s, k, none⟩ v) b F q :=
  ⟨cell_set_far h.1 hn, cell_set_far h.2.1 hn, cell_set_far h.2.2.1 hn, cell_set_far h.2.2.2 hn⟩
theorem Box.new (w : World) (F : Flds) (q : Nat) : Box (w.alloc (.cells #[.int .u64 (F.W q : Nat), .int .u8 (F.L q : Nat), .bool (F.D q), .int .i32 (F.P q)] 34)) w.heap.size F q := by
  have h1 := heap_alloc_new w (.cells #[.int .u64 (F.W q : Nat), .int .u8 (F.L q : Nat), .bool (F.D q), .int .i32 (F.P q)] 34)
  exact ⟨by rw [cell_of_row _ _ _ _ _ _ h1]; rfl, by rw [cell_of_row _ _ _ _ _ _ h1]; rfl, by rw [cell_of_row _ _ _ _ _ _ h1]; rfl, by rw [cell_of_row _ _ _ _ _ _ h1]; rfl⟩
theorem cell_grown {w w' : World} {C k : Nat} {u : Value} (g : w.drew.grownBy w' none) (h : w.cell? ⟨C, k, none⟩ = some u) : w'.cell? ⟨C, k, none⟩ = some u := g.cell (show w.drew.cell? ⟨C, k, none⟩ = some u from h) (by simp)
theorem frozen_grown {w w' : World} {C k : Nat} {u : Value} (g : w.drew.grownBy w' none) (h : w.frozen? ⟨C, k, none⟩ = false) (hc : w.cell? ⟨C, k, none⟩ = some u) : w'.frozen? ⟨C, k, none⟩ = false := by
  have hb := World.block_lt_of_cell? w _ hc
  have e : w'.heap[C]? = w.heap[C]? := g.block C hb (by simp)
  unfold World.frozen? at h ⊢
  rw [show w'.heap[C]? = w.heap[C]? from e]
  exact h
theorem drew_grown {w v : World} (h : w.grownBy v none) : w.grownBy v.drew none := ⟨h.os, h.tape, h.output, h.size, h.block⟩
theorem ctv_next {F : Flds} {w w5 : World} {C m d v : Nat} {k : Int} (h : w.rowIs C 70 2304 (fun x => .int .i64 (ctv F m d x))) (g : w.drew.grownBy w5 none) (hv : v = dg F.K d m) (hk : k = (cnt F.K d m (dg F.K d m) : Int)) :
    (w5.setCell ⟨C, d * 256 + v, none⟩ (.int .i64 (k + 1))).rowIs C 70 2304 (fun x => .int .i64 (ctv F m (d + 1) x)) := by
  refine ((row_more (w := w.drew) h g).set (d * 256 + v) (.int .i64 (k + 1))).congr fun x hx => ?_
  rw [ctv_step, hv, hk]
  split <;> rfl
theorem dg_key (F : Flds) (q d : Nat) : key (F.W q) (F.L q) / 256 ^ d % 256 = dg F.K d q := rfl


/-- The counts from digit d on. -/
def Ctr (w : World) (C n : Nat) (F : Flds) (d : Nat) : Prop :=
  ∃ g, w.rowIs C 70 2304 g ∧ ∀ x, x < 2304 → d ≤ x / 256 → g x = .int .i64 (cnt F.K (x / 256) n (x % 256) : Nat)
/-- The counts from digit d + 1 on; those of digit d are h. -/
def Cts (w : World) (C n : Nat) (F : Flds) (d : Nat) (h : Nat → Int) : Prop :=
  ∃ g, w.rowIs C 70 2304 g ∧ (∀ x, x < 2304 → d + 1 ≤ x / 256 → g x = .int .i64 (cnt F.K (x / 256) n (x % 256) : Nat)) ∧ ∀ u, u < 256 → g (d * 256 + u) = .int .i64 (h u)
theorem Ctr.first {w : World} {C n : Nat} {F : Flds} (h : w.rowIs C 70 2304 (fun x => .int .i64 (ctv F n 0 x))) : Ctr w C n F 0 :=
  ⟨_, h, fun x hx _ => by simp only [ctv, Nat.not_lt_zero, if_false]⟩
theorem Ctr.at {w : World} {C n : Nat} {F : Flds} {d : Nat} (h : Ctr w C n F d) (hd : d < 9) : Cts w C n F d (fun u => (cnt F.K d n u : Nat)) := by
  obtain ⟨g, hr, hg⟩ := h
  refine ⟨g, hr, fun x hx h1 => hg x hx (by omega), fun u hu => ?_⟩
  rw [hg (d * 256 + u) (by omega) (by omega), show (d * 256 + u) / 256 = d by omega, show (d * 256 + u) % 256 = u by omega]
theorem Ctr.next {w : World} {C n : Nat} {F : Flds} {d : Nat} (h : Ctr w C n F d) : Ctr w C n F (d + 1) := by
  obtain ⟨g, hr, hg⟩ := h
  exact ⟨g, hr, fun x hx h1 => hg x hx (by omega)⟩
theorem Cts.next {w : World} {C n : Nat} {F : Flds} {d : Nat} {h : Nat → Int} (h : Cts w C n F d h) : Ctr w C n F (d + 1) := by
  obtain ⟨g, hr, hg, _⟩ := h
  exact ⟨g, hr, hg⟩
theorem Ctr.more {w w' : World} {C n : Nat} {F : Flds} {d : Nat} (h : Ctr w C n F d) (hg : w.grownBy w' none) : Ctr w' C n F d := by
  obtain ⟨g, hr, k⟩ := h
  exact ⟨g, row_more hr hg, k⟩
theorem Cts.more {w w' : World} {C n : Nat} {F : Flds} {d : Nat} {h : Nat → Int} (h0 : Cts w C n F d h) (hg : w.grownBy w' none) : Cts w' C n F d h := by
  obtain ⟨g, hr, k⟩ := h0
  exact ⟨g, row_more hr hg, k⟩
theorem Cts.setOther {w : World} {C n : Nat} {F : Flds} {d : Nat} {h : Nat → Int} (h0 : Cts w C n F d h) {a : Addr} (ha : C ≠ a.block) (v : Value) : Cts (w.setCell a v) C n F d h := by
  obtain ⟨g, hr, k⟩ := h0
  exact ⟨g, hr.setOther ha v, k⟩
theorem Cts.congr {w : World} {C n : Nat} {F : Flds} {d : Nat} {h h' : Nat → Int} (h0 : Cts w C n F d h) (e : ∀ u, u < 256 → h u = h' u) : Cts w C n F d h' := by
  obtain ⟨g, hr, k1, k2⟩ := h0
  exact ⟨g, hr, k1, fun u hu => by rw [k2 u hu, e u hu]⟩
theorem Cts.cell {w : World} {C n : Nat} {F : Flds} {d : Nat} {h : Nat → Int} (h0 : Cts w C n F d h) (hd : d < 9) {u : Nat} (hu : u < 256) : w.cell? ⟨C, d * 256 + u, none⟩ = some (.int .i64 (h u)) ∧ w.frozen? ⟨C, d * 256 + u, none⟩ = false := by
  obtain ⟨g, hr, k1, k2⟩ := h0
  have := hr.cell (i := d * 256 + u) (by omega)
  rw [k2 u hu] at this
  exact ⟨this, hr.frozen _⟩
theorem Cts.set {w : World} {C n : Nat} {F : Flds} {d : Nat} {h : Nat → Int} (h0 : Cts w C n F d h) {u : Nat} (hu : u < 256) (y : Int) : Cts (w.setCell ⟨C, d * 256 + u, none⟩ (.int .i64 y)) C n F d (fun u' => if u' = u then y else h u') := by
  obtain ⟨g, hr, k1, k2⟩ := h0
  refine ⟨_, hr.set (d * 256 + u) (.int .i64 y), fun x hx h1 => ?_, fun u' hu' => ?_⟩
  · rw [if_neg (by omega)]
    exact k1 x hx h1
  · by_cases e : u' = u
    · subst e; simp
    · show _ = Value.int .i64 (if u' = u then y else h u')
      rw [if_neg (by omega), if_neg e]
      exact k2 u' hu'
theorem Cts.lt {w : World} {C n : Nat} {F : Flds} {d : Nat} {h : Nat → Int} (h0 : Cts w C n F d h) : C < w.heap.size := by
  obtain ⟨g, hr, _⟩ := h0
  exact hr.lt

/-- What holds between two passes. -/
structure Pass (w wr : World) (be bs n C : Nat) (F : Flds) (d Fb Gb : Nat) : Prop where
  fro : Ent wr Fb n F (fun _ => True) (od (fd F.K d) n)
  til : Ent wr Gb n F (fun _ => False) (fun p => p)
  cts : Ctr wr C n F d
  fr : Fr w wr be bs
  two : (Fb = be ∧ Gb = bs) ∨ (Fb = bs ∧ Gb = be)

theorem Pass.skip {w wr w5 : World} {be bs n C d Fb Gb v : Nat} {F : Flds} (h : Pass w wr be bs n C F d Fb Gb) (g : wr.drew.grownBy w5 none) (hc : cnt F.K d n v = n) : Pass w w5 be bs n C F (d + 1) Fb Gb :=
  have g' : wr.grownBy w5 none := (drew_grown (World.grownBy.refl wr none)).trans g
  ⟨(h.fro.more g').weak fun p hp _ => ⟨trivial, (od_skip F.K d n v hc p).symm⟩, h.til.more g', (h.cts.more g').next, h.fr.more g', h.two⟩

/-- What holds inside of a pass: h are the counts of the digit, S the places that are laid. -/
structure Mid (w wr : World) (be bs n C : Nat) (F : Flds) (d Fb Gb : Nat) (h : Nat → Int) (S : Nat → Prop) : Prop where
  fro : Ent wr Fb n F (fun _ => True) (od (fd F.K d) n)
  til : Ent wr Gb n F S (od (fd F.K (d + 1)) n)
  cts : Cts wr C n F d h
  fr : Fr w wr be bs
  two : (Fb = be ∧ Gb = bs) ∨ (Fb = bs ∧ Gb = be)

theorem Pass.mid {w wr w5 : World} {be bs n C d Fb Gb : Nat} {F : Flds} (h : Pass w wr be bs n C F d Fb Gb) (g : wr.drew.grownBy w5 none) (hd : d < 9) : Mid w w5 be bs n C F d Fb Gb (fun u => if u < 0 then (stv F.K d n u : Nat) else (cnt F.K d n u : Nat)) (fun _ => False) :=
  have g' : wr.grownBy w5 none := (drew_grown (World.grownBy.refl wr none)).trans g
  ⟨h.fro.more g', (h.til.more g').weak fun _ _ hf => hf.elim, ((h.cts.more g').at hd).congr fun u _ => by rw [if_neg (by omega)], h.fr.more g', h.two⟩

theorem Mid.drewN {w wr : World} {be bs n C d Fb Gb : Nat} {F : Flds} {h : Nat → Int} {S : Nat → Prop} (m : Mid w wr be bs n C F d Fb Gb h S) (k : Nat) : Mid w (wr.drewN k) be bs n C F d Fb Gb h S :=
  have g' : wr.grownBy (wr.drewN k) none := grown_drew (World.grownBy.refl wr none) k
  ⟨m.fro.more g', m.til.more g', m.cts.more g', m.fr.more g', m.two⟩
theorem Mid.more {w wr w' : World} {be bs n C d Fb Gb : Nat} {F : Flds} {h : Nat → Int} {S : Nat → Prop} (m : Mid w wr be bs n C F d Fb Gb h S) (g' : wr.grownBy w' none) : Mid w w' be bs n C F d Fb Gb h S :=
  ⟨m.fro.more g', m.til.more g', m.cts.more g', m.fr.more g', m.two⟩
theorem Mid.congr {w wr : World} {be bs n C d Fb Gb : Nat} {F : Flds} {h h' : Nat → Int} {S : Nat → Prop} (m : Mid w wr be bs n C F d Fb Gb h S) (e : ∀ u, u < 256 → h u = h' u) : Mid w wr be bs n C F d Fb Gb h' S :=
  ⟨m.fro, m.til, m.cts.congr e, m.fr, m.two⟩
theorem Mid.set {w wr : World} {be bs n C d Fb Gb : Nat} {F : Flds} {h : Nat → Int} {S : Nat → Prop} (m : Mid w wr be bs n C F d Fb Gb h S) (hbe : be < C) (hbs : bs < C) (hC : C = w.heap.size) {u : Nat} (hu : u < 256) (y : Int) :
    Mid w (wr.setCell ⟨C, d * 256 + u, none⟩ (.int .i64 y)) be bs n C F d Fb Gb (fun u' => if u' = u then y else h u') S :=
  have hF : Fb ≠ C := by rcases m.two with ⟨h1, h2⟩ | ⟨h1, h2⟩ <;> omega
  have hG : Gb ≠ C := by rcases m.two with ⟨h1, h2⟩ | ⟨h1, h2⟩ <;> omega
  ⟨m.fro.setOther hF _, m.til.setOther hG _, m.cts.set hu y, m.fr.set (.inr (.inr (by omega))) _, m.two⟩

/-- One more start is laid. -/
theorem Mid.start {w wr : World} {be bs n C d Fb Gb v : Nat} {F : Flds} {S : Nat → Prop} (m : Mid w wr be bs n C F d Fb Gb (fun u => if u < v then (stv F.K d n u : Nat) else (cnt F.K d n u : Nat)) S) (hbe : be < C) (hbs : bs < C) (hC : C = w.heap.size) (hv : v < 256) :
    Mid w (wr.setCell ⟨C, d * 256 + v, none⟩ (.int .i64 (stv F.K d n v : Nat))) be bs n C F d Fb Gb (fun u => if u < v + 1 then (stv F.K d n u : Nat) else (cnt F.K d n u : Nat)) S := by
  refine (m.set hbe hbs hC hv _).congr fun u hu => ?_
  by_cases e : u = v
  · subst e
    simp
  · by_cases h1 : u < v
    · simp [e, h1, show u < v + 1 by omega]
    · simp [e, h1, show ¬ u < v + 1 by omega]
theorem Mid.move {w wr : World} {be bs n C d Fb Gb : Nat} {F : Flds} {S : Nat → Prop} (m : Mid w wr be bs n C F d Fb Gb (fun u => if u < 256 then (stv F.K d n u : Nat) else (cnt F.K d n u : Nat)) S) :
    Mid w wr be bs n C F d Fb Gb (fun u => ((stv F.K d n u + cpv F.K d n 0 u : Nat) : Int)) S :=
  m.congr fun u hu => by simp [hu, cpv_zero]

/-- The places that the first m have been moved to. -/
def Moved (F : Flds) (d n m : Nat) (p : Nat) : Prop := ∃ i, i < m ∧ p = Rk (fd F.K (d + 1)) n (od (fd F.K d) n i)

theorem Mid.fresh {w wr : World} {be bs n C d Fb Gb : Nat} {F : Flds} {h : Nat → Int} (m : Mid w wr be bs n C F d Fb Gb h (fun _ => False)) : Mid w wr be bs n C F d Fb Gb h (Moved F d n 0) :=
  ⟨m.fro, m.til.weak fun p _ ⟨i, hi, _⟩ => absurd hi (by omega), m.cts, m.fr, m.two⟩

/-- Entry number m of the pass is put at its place. -/
theorem Mid.put {w wr : World} {be bs n C d Fb Gb m : Nat} {F : Flds} {h : Nat → Int} (M : Mid w wr be bs n C F d Fb Gb h (Moved F d n m)) (hbe : be < C) (hbs : bs < C) (hne : be ≠ bs) (hm : m < n) {q r : Nat} (hq : q = od (fd F.K d) n m) (hr : r = Rk (fd F.K (d + 1)) n q) :
    Mid w ((((wr.setCell ⟨Gb, r * 4, none⟩ (.int .u64 (F.W q : Nat))).setCell ⟨Gb, r * 4 + 1, none⟩ (.int .u8 (F.L q : Nat))).setCell ⟨Gb, r * 4 + 2, none⟩ (.bool (F.D q))).setCell ⟨Gb, r * 4 + 3, none⟩ (.int .i32 (F.P q))) be bs n C F d Fb Gb h (Moved F d n (m + 1)) := by
  have hF : Fb ≠ Gb := by rcases M.two with ⟨h1, h2⟩ | ⟨h1, h2⟩ <;> omega
  have hG : C ≠ Gb := by rcases M.two with ⟨h1, h2⟩ | ⟨h1, h2⟩ <;> omega
  have hG2 : Gb = be ∨ Gb = bs ∨ w.heap.size ≤ Gb := by rcases M.two with ⟨h1, h2⟩ | ⟨h1, h2⟩ <;> omega
  have hqn : q < n := by rw [hq]; exact od_lt _ hm
  have hrn : r < n := by rw [hr]; exact Rk_lt _ hqn
  refine ⟨(((M.fro.setOther hF _).setOther hF _).setOther hF _).setOther hF _, (M.til.put hrn q).weak ?_, (((M.cts.setOther hG _).setOther hG _).setOther hG _).setOther hG _, (((M.fr.set hG2 _).set hG2 _).set hG2 _).set hG2 _, M.two⟩
  rintro p hp ⟨i, hi, e⟩
  by_cases hpr : p = r
  · refine ⟨.inl hpr, ?_⟩
    rw [if_pos hpr, hpr, hr, od_Rk _ hqn]
  · refine ⟨.inr ⟨i, ?_, e⟩, if_neg hpr⟩
    by_cases him : i = m
    · subst him
      rw [← hq, ← hr] at e
      exact absurd e hpr
    · omega

theorem Mid.count {w wr : World} {be bs n C d Fb Gb m : Nat} {F : Flds} {S : Nat → Prop} (M : Mid w wr be bs n C F d Fb Gb (fun u => ((stv F.K d n u + cpv F.K d n m u : Nat) : Int)) S) (hbe : be < C) (hbs : bs < C) (hC : C = w.heap.size) (hm : m < n) {v : Nat} (hv : v = dg F.K d (od (fd F.K d) n m)) {k : Int} (hk : k = ((stv F.K d n v + cpv F.K d n m v : Nat) : Int)) :
    Mid w (wr.setCell ⟨C, d * 256 + v, none⟩ (.int .i64 (k + 1))) be bs n C F d Fb Gb (fun u => ((stv F.K d n u + cpv F.K d n (m + 1) u : Nat) : Int)) S := by
  have hv256 : v < 256 := by rw [hv]; exact dg_lt _ _ _
  refine (M.set hbe hbs hC hv256 _).congr fun u hu => ?_
  rw [cpv_succ F.K d hm u, ← hv]
  by_cases e : u = v
  · subst e
    rw [if_pos rfl, if_pos rfl, hk]
    omega
  · rw [if_neg e, if_neg e]
    rfl

/-- A pass has come to its end. -/
theorem Mid.done {w wr : World} {be bs n C d Fb Gb : Nat} {F : Flds} {h : Nat → Int} (M : Mid w wr be bs n C F d Fb Gb h (Moved F d n n)) : Pass w wr be bs n C F (d + 1) Gb Fb := by
  refine ⟨M.til.weak fun p hp _ => ⟨?_, rfl⟩, M.fro.weak fun _ _ hf => hf.elim, M.cts.next, M.fr, ?_⟩
  · obtain ⟨i, hi, e⟩ := od_onto (fd F.K d) (od_lt (fd F.K (d + 1)) hp)
    exact ⟨i, hi, by rw [e, Rk_od _ hp]⟩
  · rcases M.two with ⟨h1, h2⟩ | ⟨h1, h2⟩
    · exact .inr ⟨h2, h1⟩
    · exact .inl ⟨h2, h1⟩
end Go.Proofs.Qxb6600216a
