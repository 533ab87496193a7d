import Derived.Test.Qxb6600216aDig
namespace Go.Proofs.Qxb6600216a
open Go.RowKit
set_option linter.unusedVariables false

def Z70 : Array Value := Array.replicate 2304 (.int .i64 0)
theorem t70z : Try.t70.zero = some (.agg Z70) := by kernel_rfl
theorem zero70 (w : World) : Sem.run Try.prog (zeroValue 70) w = .ok (.agg Z70) w := by
  simp [zeroValue, go_sem, t70z]
theorem z70 (i : Nat) (hi : i < Z70.size) : Z70[i]? = some (.int .i64 0) := by
  unfold Z70 at *
  simp at hi
  simp [hi]
theorem z70_size : Z70.size = 2304 := by unfold Z70; simp

/-- The fields of the entries, by the index that an entry had at first. -/
structure Flds where
  W : Nat → Nat
  L : Nat → Nat
  D : Nat → Bool
  P : Nat → Int
def Flds.at (F : Flds) (c q : Nat) : Value := match c with
  | 0 => .int .u64 (F.W q : Nat)
  | 1 => .int .u8 (F.L q : Nat)
  | 2 => .bool (F.D q)
  | _ => .int .i32 (F.P q)
def Flds.K (F : Flds) (q : Nat) : Nat := key (F.W q) (F.L q)
structure Flds.Ok (F : Flds) (n : Nat) : Prop where
  w : ∀ q, q < n → F.W q < 18446744073709551616
  l : ∀ q, q < n → F.L q < 256

/-- Block b holds n entries; those at the places of S are told: at p stands entry o p. -/
def Ent (w : World) (b n : Nat) (F : Flds) (S : Nat → Prop) (o : Nat → Nat) : Prop :=
  ∃ g, w.rowIs b 34 (n * 4) g ∧ ∀ p, p < n → S p → ∀ c, c < 4 → g (p * 4 + c) = F.at c (o p)

theorem Ent.cells {w : World} {b n : Nat} {F : Flds} {S : Nat → Prop} {o : Nat → Nat} (h : Ent w b n F S o) {p : Nat} (hp : p < n) (hs : S p) :
    w.cell? ⟨b, p * 4, none⟩ = some (.int .u64 (F.W (o p) : Nat)) ∧ w.cell? ⟨b, p * 4 + 1, none⟩ = some (.int .u8 (F.L (o p) : Nat)) ∧ w.cell? ⟨b, p * 4 + 2, none⟩ = some (.bool (F.D (o p))) ∧ w.cell? ⟨b, p * 4 + 3, none⟩ = some (.int .i32 (F.P (o p))) := by
  obtain ⟨g, hr, hg⟩ := h
  have e := hg p hp hs
  refine ⟨?_, ?_, ?_, ?_⟩
  · have := hr.cell (i := p * 4 + 0) (by omega); rw [e 0 (by omega)] at this; exact this
  · have := hr.cell (i := p * 4 + 1) (by omega); rw [e 1 (by omega)] at this; exact this
  · have := hr.cell (i := p * 4 + 2) (by omega); rw [e 2 (by omega)] at this; exact this
  · have := hr.cell (i := p * 4 + 3) (by omega); rw [e 3 (by omega)] at this; exact this

theorem Ent.free {w : World} {b n : Nat} {F : Flds} {S : Nat → Prop} {o : Nat → Nat} (h : Ent w b n F S o) {p : Nat} (hp : p < n) :
    (∀ j, w.frozen? ⟨b, j, none⟩ = false) ∧ b < w.heap.size ∧ ∃ u0 u1 u2 u3, w.cell? ⟨b, p * 4, none⟩ = some u0 ∧ w.cell? ⟨b, p * 4 + 1, none⟩ = some u1 ∧ w.cell? ⟨b, p * 4 + 2, none⟩ = some u2 ∧ w.cell? ⟨b, p * 4 + 3, none⟩ = some u3 := by
  obtain ⟨g, hr, hg⟩ := h
  exact ⟨hr.frozen, hr.lt, _, _, _, _, hr.cell (by omega), hr.cell (by omega), hr.cell (by omega), hr.cell (by omega)⟩

theorem Ent.of_block {w w' : World} {b n : Nat} {F : Flds} {S : Nat → Prop} {o : Nat → Nat} (h : Ent w b n F S o) (e : w'.heap[b]? = w.heap[b]?) : Ent w' b n F S o := by
  obtain ⟨g, hr, hg⟩ := h
  exact ⟨g, hr.of_block e, hg⟩
theorem Ent.lt {w : World} {b n : Nat} {F : Flds} {S : Nat → Prop} {o : Nat → Nat} (h : Ent w b n F S o) : b < w.heap.size := by
  obtain ⟨g, hr, hg⟩ := h
  exact hr.lt
theorem Ent.more {w w' : World} {b n : Nat} {F : Flds} {S : Nat → Prop} {o : Nat → Nat} (h : Ent w b n F S o) (hg : w.grownBy w' none) : Ent w' b n F S o := h.of_block (hg.block b h.lt (by simp))
theorem Ent.setOther {w : World} {b n : Nat} {F : Flds} {S : Nat → Prop} {o : Nat → Nat} (h : Ent w b n F S o) {a : Addr} (ha : b ≠ a.block) (v : Value) : Ent (w.setCell a v) b n F S o := h.of_block (heap_setCell_other w a b v ha)
theorem Ent.weak {w : World} {b n : Nat} {F : Flds} {S S' : Nat → Prop} {o o' : Nat → Nat} (h : Ent w b n F S o) (hS : ∀ p, p < n → S' p → S p ∧ o p = o' p) : Ent w b n F S' o' := by
  obtain ⟨g, hr, hg⟩ := h
  exact ⟨g, hr, fun p hp hs c hc => by rw [hg p hp (hS p hp hs).1 c hc, (hS p hp hs).2]⟩

/-- An entry is stored at place r. -/
theorem Ent.put {w : World} {b n : Nat} {F : Flds} {S : Nat → Prop} {o : Nat → Nat} (h : Ent w b n F S o) {r : Nat} (hr0 : r < n) (q : Nat) :
    Ent ((((w.setCell ⟨b, r * 4, none⟩ (.int .u64 (F.W q : Nat))).setCell ⟨b, r * 4 + 1, none⟩ (.int .u8 (F.L q : Nat))).setCell ⟨b, r * 4 + 2, none⟩ (.bool (F.D q))).setCell ⟨b, r * 4 + 3, none⟩ (.int .i32 (F.P q))) b n F (fun p => p = r ∨ S p) (fun p => if p = r then q else o p) := by
  obtain ⟨g, hr, hg⟩ := h
  refine ⟨_, (((hr.set (r * 4) _).set (r * 4 + 1) _).set (r * 4 + 2) _).set (r * 4 + 3) _, fun p hp hs c hc => ?_⟩
  by_cases e : p = r
  · subst e
    rcases (show c = 0 ∨ c = 1 ∨ c = 2 ∨ c = 3 by omega) with rfl | rfl | rfl | rfl <;> simp [Flds.at]
  · have hs' : S p := by
      rcases hs with h | h
      · exact absurd h e
      · exact h
    show _ = F.at c (if p = r then q else o p)
    rw [if_neg e]
    have e0 : ¬ p * 4 + c = r * 4 := by omega
    have e1 : ¬ p * 4 + c = r * 4 + 1 := by omega
    have e2 : ¬ p * 4 + c = r * 4 + 2 := by omega
    have e3 : ¬ p * 4 + c = r * 4 + 3 := by omega
    simp only [if_neg e0, if_neg e1, if_neg e2, if_neg e3]
    exact hg p hp hs' c hc

/-- Only the blocks x and y may have changed; others may have been made. -/
structure Fr (w w' : World) (x y : Nat) : Prop where
  os : w'.os = w.os
  tape : w'.tape = w.tape
  output : w'.output = w.output
  size : w.heap.size ≤ w'.heap.size
  block : ∀ i, i < w.heap.size → i ≠ x → i ≠ y → w'.heap[i]? = w.heap[i]?
theorem Fr.of_grown {w w' : World} (h : w.grownBy w' none) (x y : Nat) : Fr w w' x y := ⟨h.os, h.tape, h.output, h.size, fun i hi _ _ => h.block i hi (by simp)⟩
theorem Fr.more {w w1 w' : World} {x y : Nat} (h : Fr w w1 x y) (hg : w1.grownBy w' none) : Fr w w' x y :=
  ⟨hg.os.trans h.os, hg.tape.trans h.tape, hg.output.trans h.output, Nat.le_trans h.size hg.size, fun i hi h1 h2 => (hg.block i (Nat.lt_of_lt_of_le hi h.size) (by simp)).trans (h.block i hi h1 h2)⟩
theorem Fr.set {w w1 : World} {x y : Nat} (h : Fr w w1 x y) {s k : Nat} (hs : s = x ∨ s = y ∨ w.heap.size ≤ s) (v : Value) : Fr w (w1.setCell ⟨s, k, none⟩ v) x y :=
  ⟨h.os, h.tape, h.output, by simpa using h.size, fun i hi h1 h2 => by
    rw [heap_setCell_other _ _ _ _ (by simp only; omega)]
    exact h.block i hi h1 h2⟩
theorem grown_drew {w w' : World} (h : w.grownBy w' none) (n : Nat) : w.grownBy (w'.drewN n) none := ⟨h.os, h.tape, h.output, h.size, h.block⟩
theorem Fr.drewN {w w1 : World} {x y : Nat} (h : Fr w w1 x y) (n : Nat) : Fr w (w1.drewN n) x y := ⟨h.os, h.tape, h.output, h.size, h.block⟩

theorem grown_set {w wr : World} {s k : Nat} {v : Value} (h : w.grownBy wr none) (hs : w.heap.size ≤ s) : w.grownBy (wr.setCell ⟨s, k, none⟩ v) none := by
  refine ⟨h.os, h.tape, h.output, by simpa using h.size, fun i hi _ => ?_⟩
  rw [heap_setCell_other _ _ _ _ (by simp; omega)]
  exact h.block i hi (by simp)
theorem cell_set_far {w : World} {a : Addr} {b k : Nat} {u v : Value} (h : w.cell? ⟨b, k, none⟩ = some u) (hn : b ≠ a.block) : (w.setCell a v).cell? ⟨b, k, none⟩ = some u := by
  have e := heap_setCell_other w a b v hn
  unfold World.cell? at h ⊢
  rw [show (w.setCell a v).heap[b]? = w.heap[b]? from e]
  exact h
theorem row_more {w w' : World} {b t n : Nat} {f : Nat → Value} (h : w.rowIs b t n f) (hg : w.grownBy w' none) : w'.rowIs b t n f := h.of_block (hg.block b h.lt (by simp))
end Go.Proofs.Qxb6600216a
