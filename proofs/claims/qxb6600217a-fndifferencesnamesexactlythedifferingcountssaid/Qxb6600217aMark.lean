import Derived.Test.Qxb6600217aSym
import Derived.Test.Qxb6600217aIx
namespace Go.Proofs.Qxb6600217a
open Go.RowKit

/-- What holds while the names are marked. -/
structure St5 (w wr : World) (B : Nat) (T U : Nat → Int) (g cap : Nat) (L : List ByteArray) (s : Nat) (X : List Nat) (i : Nat) : Prop where
  row : wr.ownsRow B 9 1 (.slice (some ⟨g, 0, none⟩) L.length cap) L.length (L.map Value.string)
  two : Two wr B T U
  seen : wr.rowIs s 51 7 (fun j => .bool (sb X i j))
  gs : g ≠ s
  bs : B + 1 < s
  ws : w.heap.size ≤ s
  grown : w.grownBy wr none

theorem grown_set {w wr : World} {s k : Nat} {v : Value} (h : w.grownBy wr none) (hs : w.heap.size ≤ s) : w.grownBy (wr.setCell ⟨s, k, none⟩ v) none := by
  refine ⟨h.os, h.tape, h.output, by simpa using h.size, fun i hi _ => ?_⟩
  rw [heap_setCell_other _ _ _ _ (by simp; omega)]
  exact h.block i hi (by simp)

theorem cell_set_far {w : World} {a : Addr} {b k : Nat} {u v : Value} (h : w.cell? ⟨b, k, none⟩ = some u) (hn : b ≠ a.block) : (w.setCell a v).cell? ⟨b, k, none⟩ = some u := by
  have e := heap_setCell_other w a b v hn
  unfold World.cell? at h ⊢
  rw [show (w.setCell a v).heap[b]? = w.heap[b]? from e]
  exact h

theorem St5.more {w wr w' : World} {B : Nat} {T U : Nat → Int} {g cap : Nat} {L : List ByteArray} {s : Nat} {X : List Nat} {i : Nat} (h : St5 w wr B T U g cap L s X i) (hg : wr.grownBy w' none) : St5 w w' B T U g cap L s X i :=
  ⟨owns_keep h.row hg, h.two.kept hg, h.seen.of_block (hg.block _ h.seen.lt (by simp)), h.gs, h.bs, h.ws, h.grown.trans hg⟩

theorem St5.put {w wr : World} {B : Nat} {T U : Nat → Int} {g cap : Nat} {L : List ByteArray} {s : Nat} {X : List Nat} {i : Nat} (h : St5 w wr B T U g cap L s X i) (hi : i < X.length) : St5 w (wr.setCell ⟨s, X.getD i 0, none⟩ (.bool true)) B T U g cap L s X (i + 1) := by
  obtain ⟨h0, h1, h2, h3, h4, h5, h6, h7, h8, h9, h10, h11, h12, h13⟩ := h.two
  have b0 : B ≠ s := by have := h.bs; omega
  have b1 : B + 1 ≠ s := by have := h.bs; omega
  refine ⟨ownsRow_setOther h.row (by simpa [Value.ownBlock] using h.gs) _, ⟨cell_set_far h0 b0, cell_set_far h1 b0, cell_set_far h2 b0, cell_set_far h3 b0, cell_set_far h4 b0, cell_set_far h5 b0, cell_set_far h6 b0, cell_set_far h7 b1, cell_set_far h8 b1, cell_set_far h9 b1, cell_set_far h10 b1, cell_set_far h11 b1, cell_set_far h12 b1, cell_set_far h13 b1⟩, ?_, h.gs, h.bs, h.ws, grown_set h.grown h.ws⟩
  refine (h.seen.set (X.getD i 0) (.bool true)).congr fun j _ => ?_
  rw [sb_next hi]
  split <;> rfl

theorem seen_zero (X : List Nat) (w : World) : (w.alloc (.cells #[.bool false, .bool false, .bool false, .bool false, .bool false, .bool false, .bool false] 51)).rowIs w.heap.size 51 7 (fun j => .bool (sb X 0 j)) := by
  refine World.rowIs_alloc w #[.bool false, .bool false, .bool false, .bool false, .bool false, .bool false, .bool false] 51 _ ?_
  intro i hi
  rcases (show i = 0 ∨ i = 1 ∨ i = 2 ∨ i = 3 ∨ i = 4 ∨ i = 5 ∨ i = 6 by simp at hi; omega) with rfl | rfl | rfl | rfl | rfl | rfl | rfl <;> simp [sb_zero]

theorem row_new (T : Nat → Int) (w : World) (t : Nat) : (w.alloc (.cells #[.int .i64 (T 0), .int .i64 (T 1), .int .i64 (T 2), .int .i64 (T 3), .int .i64 (T 4), .int .i64 (T 5), .int .i64 (T 6)] t)).rowIs w.heap.size t 7 (fun j => .int .i64 (T j)) := by
  refine World.rowIs_alloc w #[.int .i64 (T 0), .int .i64 (T 1), .int .i64 (T 2), .int .i64 (T 3), .int .i64 (T 4), .int .i64 (T 5), .int .i64 (T 6)] t _ ?_
  intro i hi
  rcases (show i = 0 ∨ i = 1 ∨ i = 2 ∨ i = 3 ∨ i = 4 ∨ i = 5 ∨ i = 6 by simp at hi; omega) with rfl | rfl | rfl | rfl | rfl | rfl | rfl <;> simp

theorem owns_lt {w : World} {b e size n g cap m : Nat} {xs : List Value} (h : w.ownsRow b e size (.slice (some ⟨g, 0, none⟩) m cap) n xs) : g < w.heap.size := (h.lt g rfl).2

theorem st5_first {w wx : World} {B : Nat} {T U : Nat → Int} {g cap : Nat} {L : List ByteArray} (X : List Nat) (hr : wx.ownsRow B 9 1 (.slice (some ⟨g, 0, none⟩) L.length cap) L.length (L.map Value.string)) (ht : Two wx B T U) (hg : w.grownBy wx none) :
    St5 w (wx.alloc (.cells #[.bool false, .bool false, .bool false, .bool false, .bool false, .bool false, .bool false] 51)) B T U g cap L wx.heap.size X 0 := by
  have hga := World.grownBy_alloc wx (.cells #[.bool false, .bool false, .bool false, .bool false, .bool false, .bool false, .bool false] 51) none
  have hl := owns_lt hr
  have hb : B + 1 < wx.heap.size := by
    have hc := ht.2.2.2.2.2.2.2.1
    by_cases hlt : B + 1 < wx.heap.size
    · exact hlt
    · have hn : wx.heap[B + 1]? = none := Array.getElem?_eq_none (by omega)
      simp [World.cell?, hn] at hc
  exact ⟨owns_keep hr hga, ht.kept hga, seen_zero X wx, by omega, hb, hg.size, hg.trans hga⟩
end Go.Proofs.Qxb6600217a
