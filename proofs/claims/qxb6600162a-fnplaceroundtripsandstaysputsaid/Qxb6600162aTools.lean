import Derived.Test.Qxb6600162aPlace
namespace Go.Proofs.Qxb6600162a
open Go.RowKit Go.Maps

theorem ins_old {L : List ByteArray} {s : ByteArray} (h : s ∈ L) : ins L s = L := by simp [ins, pos_iff, h]
theorem ins_new {L : List ByteArray} {s : ByteArray} (h : s ∉ L) : ins L s = L ++ [s] := by simp [ins, pos_iff, h]

set_option maxHeartbeats 400000 in
theorem place10_old (w : World) (base d bm : Nat) (lv : Value) (L : List ByteArray) (s : ByteArray) (h : Dist w base d bm lv L) (hs : s.size ≤ maxLen) (hin : s ∈ L) :
    Calls Try.prog 10 #[.pointer (some ⟨d, 0, none⟩), .string s] w fun e w' => e = .returned (.int .u32 (pos s L)) ∧ w = w' := by
  refine hidR fun R HR => ?_
  have C := hide (place14_old w base d bm lv L s h hs hin)
  clear h
  go_enter Try.func10, Try.ntmps10
  go_wp2_with (go_at_call 14; refine (unhide C).mono ?_; rintro e w' ⟨rfl, rfl⟩)
  exact HR.out _ _ ⟨rfl, rfl⟩

set_option maxHeartbeats 400000 in
theorem place10_new (w : World) (base d bm : Nat) (lv : Value) (L : List ByteArray) (s : ByteArray) (h : Dist w base d bm lv L) (hs : s.size ≤ maxLen) (hin : s ∉ L) (hL : L.length ≤ 100000) (hbase : base ≤ w.heap.size) :
    Calls Try.prog 10 #[.pointer (some ⟨d, 0, none⟩), .string s] w fun e w' => ∃ lv', e = .returned (.int .u32 L.length) ∧ Dist w' base d bm lv' (L ++ [s]) ∧ Moved w w' d bm lv lv' := by
  refine hidR fun R HR => ?_
  have C := hide (place14_new w base d bm lv L s h hs hin hL hbase)
  clear h
  go_enter Try.func10, Try.ntmps10
  go_wp2_with (go_at_call 14; refine (unhide C).mono ?_; rintro e w' ⟨lv', rfl, h1, h2⟩)
  exact HR.out _ _ ⟨_, rfl, h1, h2⟩

set_option maxHeartbeats 400000 in
theorem list11 (w : World) (base d bm : Nat) (lv : Value) (L : List ByteArray) (h : Dist w base d bm lv L) :
    Calls Try.prog 11 #[.pointer (some ⟨d, 0, none⟩)] w fun e w' => e = .returned lv ∧ w = w' := by
  refine hidR fun R HR => ?_
  obtain ⟨ao, cap0, hlv⟩ := ownsRow_form h.row
  subst hlv
  obtain ⟨c0, c1, f0⟩ := cells2 h.cell
  clear h
  go_enter Try.func11, Try.ntmps11
  go_wp2
  exact HR.out _ _ ⟨rfl, rfl⟩

/-- The texts of ss in order of first appearance. -/
def dis (ss : List ByteArray) : List ByteArray := ss.foldl ins []
theorem dis_snoc (ss : List ByteArray) (s : ByteArray) : dis (ss ++ [s]) = ins (dis ss) s := by simp [dis]
theorem ins_len (L : List ByteArray) (s : ByteArray) : (ins L s).length ≤ L.length + 1 := by unfold ins; split <;> simp
theorem dis_len (ss : List ByteArray) (k : Nat) : (dis (ss.take k)).length ≤ k := by
  induction k with
  | zero => simp [dis]
  | succ k ih =>
    by_cases h : k < ss.length
    · rw [List.take_succ_eq_append_getElem h, dis_snoc]
      have := ins_len (dis (ss.take k)) ss[k]
      omega
    · rw [List.take_of_length_le (by omega)] at ih ⊢
      omega
theorem dis_step (ss : List ByteArray) (k : Nat) (h : k < ss.length) : dis (ss.take (k + 1)) = ins (dis (ss.take k)) (ss.getD k ByteArray.empty) := by
  rw [List.take_succ_eq_append_getElem h, dis_snoc]
  simp [List.getD, h]

theorem row_ne_map {w : World} {base e size n b : Nat} {v : Value} {xs : List Value} {es : Array MapEntry} {c : Nat} (h : w.ownsRow base e size v n xs) (hd : w.heap[b]? = some (.map es c)) : v.ownBlock ≠ some b := by
  intro e'
  rcases h.2 with ⟨rfl, _⟩ | ⟨g, cap, cur, rfl, _, hg, _⟩
  · simp [Value.ownBlock] at e'
  · simp [Value.ownBlock] at e'
    subst e'
    rw [hd] at hg
    simp at hg

/-- Another row stays while place does its work. -/
theorem Moved.row {w w' : World} {base d bm n : Nat} {lv lv' v : Value} {L : List ByteArray} {xs : List Value} (hm : Moved w w' d bm lv lv') (h : Dist w base d bm lv L) (hr : w.ownsRow base 9 1 v n xs) (hne : ∀ g, lv.ownBlock = some g → v.ownBlock ≠ some g) :
    w'.ownsRow base 9 1 v n xs := by
  have h1 := row_ne_cells hr h.cell (by decide)
  have h2 : v.ownBlock ≠ some bm := by
    obtain ⟨D, ⟨es, c, hb, _⟩, _⟩ := h.map
    exact row_ne_map hr hb
  refine ⟨hr.1, ?_⟩
  rcases hr.2 with hn | ⟨g, cap, cur, rfl, hb, hg, r⟩
  · exact .inl hn
  · refine .inr ⟨g, cap, cur, rfl, hb, ?_, r⟩
    rw [hm.block g (Array.getElem?_eq_some_iff.1 hg).1 (by intro e; subst e; exact h1 rfl) (by intro e; subst e; exact h2 rfl) (fun e => hne g e rfl)]
    exact hg

/-- .. and so apart from the list's new row. -/
theorem Moved.apart {w w' : World} {base d bm n : Nat} {lv lv' v : Value} {xs : List Value} (hm : Moved w w' d bm lv lv') (hr : w.ownsRow base 9 1 v n xs) (hne : ∀ g, lv.ownBlock = some g → v.ownBlock ≠ some g) :
    ∀ g, lv'.ownBlock = some g → v.ownBlock ≠ some g := by
  intro g hg
  rcases hm.lies with e | ⟨g', e, hle⟩
  · exact hne g (by rw [← e]; exact hg)
  · intro hv
    rw [hg] at e
    obtain rfl := Option.some.inj e
    have := (hr.lt g hv).2
    omega

/-- The distinct stays while a row of another is written. -/
theorem Dist.kept {w w' : World} {base d bm g : Nat} {lv : Value} {L : List ByteArray} (h : Dist w base d bm lv L) (hg : w.grownBy w' (some g)) (h1 : d ≠ g) (h2 : bm ≠ g) (h3 : lv.ownBlock ≠ some g) : Dist w' base d bm lv L := by
  have hd := (Array.getElem?_eq_some_iff.1 h.cell).1
  obtain ⟨D, hm, hD⟩ := h.map
  exact ⟨(hg.block d hd (by simpa using h1)).trans h.cell, h.row.kept hg (.inr h3), ⟨D, hm.kept hg (by simpa using h2), hD⟩⟩

theorem Moved.below {w w' : World} {B d bm : Nat} {lv lv' : Value} (hm : Moved w w' d bm lv lv') (hB : B ≤ w.heap.size) (h1 : B ≤ d) (h2 : B ≤ bm) (h3 : ∀ g, lv.ownBlock = some g → B ≤ g) : Below B w w' :=
  ⟨hm.os, hm.tape, hm.output, hm.size, fun k hk => hm.block k (by omega) (by omega) (by omega) (fun e => by have := h3 k e; omega)⟩

end Go.Proofs.Qxb6600162a
