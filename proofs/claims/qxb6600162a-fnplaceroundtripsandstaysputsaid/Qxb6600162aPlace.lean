import Derived.Test.Qxb6600162aClone
namespace Go.Proofs.Qxb6600162a
open Go.RowKit Go.Maps

/-- The place of s in L: where it first stands, or the length. -/
def pos (s : ByteArray) : List ByteArray → Nat
  | [] => 0
  | x :: r => if x = s then 0 else pos s r + 1

/-- L with s behind it, where it is not there. -/
def ins (L : List ByteArray) (s : ByteArray) : List ByteArray := if pos s L < L.length then L else L ++ [s]

theorem pos_le (s : ByteArray) : ∀ L, pos s L ≤ L.length
  | [] => Nat.le_refl _
  | x :: r => by unfold pos; split <;> simp; have := pos_le s r; omega

theorem pos_lt {s : ByteArray} : ∀ {L}, s ∈ L → pos s L < L.length
  | x :: r, h => by
    unfold pos
    split
    · simp
    · rename_i hne
      have : s ∈ r := by
        rcases List.mem_cons.1 h with e | e
        · exact absurd e.symm hne
        · exact e
      have := pos_lt this
      simp; omega

theorem pos_out {s : ByteArray} : ∀ {L}, s ∉ L → pos s L = L.length
  | [], _ => rfl
  | x :: r, h => by
    have h1 : x ≠ s := fun e => h (by simp [e])
    have h2 : s ∉ r := fun e => h (by simp [e])
    simp [pos, h1, pos_out h2]

theorem pos_app {s t : ByteArray} : ∀ {L}, s ∈ L → pos s (L ++ [t]) = pos s L
  | x :: r, h => by
    by_cases e : x = s
    · simp [pos, e]
    · have : s ∈ r := by
        rcases List.mem_cons.1 h with e' | e'
        · exact absurd e'.symm e
        · exact e'
      simp [pos, e, pos_app this]

theorem pos_new {s : ByteArray} : ∀ {L}, s ∉ L → pos s (L ++ [s]) = L.length
  | [], _ => by simp [pos]
  | x :: r, h => by
    have h1 : x ≠ s := fun e => h (by simp [e])
    have h2 : s ∉ r := fun e => h (by simp [e])
    simp [pos, h1, pos_new h2]

theorem pos_get {s : ByteArray} : ∀ {L}, s ∈ L → L[pos s L]? = some s
  | x :: r, h => by
    by_cases e : x = s
    · simp [pos, e]
    · have : s ∈ r := by
        rcases List.mem_cons.1 h with e' | e'
        · exact absurd e'.symm e
        · exact e'
      simp [pos, e, pos_get this]

theorem mem_of_pos {s : ByteArray} {L : List ByteArray} (h : pos s L < L.length) : s ∈ L :=
  Classical.byContradiction fun hn => by rw [pos_out hn] at h; omega
theorem pos_iff {s : ByteArray} {L : List ByteArray} : pos s L < L.length ↔ s ∈ L := ⟨mem_of_pos, pos_lt⟩

def kl (s : ByteArray) : Lit := .string s.data.toList
theorem kl_inj {s t : ByteArray} (h : kl s = kl t) : s = t := by
  cases s; cases t
  simp [kl] at h
  simpa using h

/-- What the map holds: each text of L, at its place. -/
def MapIs (D : DataW Unit) (L : List ByteArray) : Prop :=
  IsMap D ∧ ∀ s, Maps.has D (kl s) = decide (pos s L < L.length) ∧ (s ∈ L → D.atKey (kl s) (.lit (.int .u32 0)) = .lit (.int .u32 (pos s L)))

theorem mapIs_nil : MapIs (.map []) [] := ⟨⟨_, rfl⟩, fun s => ⟨by simp [Maps.has], by simp⟩⟩

theorem isKey (s : ByteArray) : WideAt.IsKeyLit (kl s) := by simp [kl, WideAt.IsKeyLit]

theorem mapIs_put {D : DataW Unit} {L : List ByteArray} (h : MapIs D L) {s : ByteArray} (hs : s ∉ L) (hm : IsMap (D.put (kl s) (.lit (.int .u32 (L.length : Int))))) :
    MapIs (D.put (kl s) (.lit (.int .u32 (L.length : Int)))) (L ++ [s]) := by
  refine ⟨hm, fun t => ?_⟩
  by_cases e : t = s
  · subst e
    refine ⟨?_, fun _ => ?_⟩
    · rw [has_put_same h.1 (isKey _), pos_new hs]; simp
    · rw [atKey_put_same h.1 (isKey _), pos_new hs]
  · have ek : kl t ≠ kl s := fun h => e (kl_inj h)
    refine ⟨?_, fun ht => ?_⟩
    · rw [has_put_other ek, (h.2 t).1]
      congr 1
      simp only [pos_iff, List.mem_append, List.mem_singleton, e, or_false]
    · have : t ∈ L := by simpa [e] using ht
      rw [atKey_put_other ek, (h.2 t).2 this, pos_app this]

/-- A distinct in memory: its struct in block d, its map in block bm, its list's row. -/
structure Dist (w : World) (base d bm : Nat) (lv : Value) (L : List ByteArray) : Prop where
  cell : w.heap[d]? = some (.cells #[lv, .map (some bm)] 33 (0, 0))
  row : w.ownsRow base 9 1 lv L.length (L.map Value.string)
  map : ∃ D : DataW Unit, w.ownsMap Try.prog 9 (plainElem Try.prog 27) bm L.length D ∧ MapIs D L

/-- What a call of place may have turned. -/
structure Moved (w w' : World) (d bm : Nat) (lv lv' : Value) : Prop where
  os : w'.os = w.os
  tape : w'.tape = w.tape
  output : w'.output = w.output
  size : w.heap.size ≤ w'.heap.size
  block : ∀ k, k < w.heap.size → k ≠ d → k ≠ bm → lv.ownBlock ≠ some k → w'.heap[k]? = w.heap[k]?
  lies : lv'.ownBlock = lv.ownBlock ∨ ∃ g, lv'.ownBlock = some g ∧ w.heap.size ≤ g

theorem Moved.refl (w : World) (d bm : Nat) (lv : Value) : Moved w w d bm lv lv := ⟨rfl, rfl, rfl, Nat.le_refl _, fun _ _ _ _ _ => rfl, .inl rfl⟩

theorem Dist.drewN {w : World} {base d bm : Nat} {lv : Value} {L : List ByteArray} (h : Dist w base d bm lv L) (n : Nat) : Dist (w.drewN n) base d bm lv L := ⟨h.cell, h.row, h.map⟩

theorem Dist.lt {w : World} {base d bm : Nat} {lv : Value} {L : List ByteArray} (h : Dist w base d bm lv L) : d < w.heap.size ∧ bm < w.heap.size ∧ d ≠ bm ∧ lv.ownBlock ≠ some d ∧ lv.ownBlock ≠ some bm := by
  have h1 := (Array.getElem?_eq_some_iff.1 h.cell).1
  obtain ⟨D, hown, _⟩ := h.map
  have h2 := hown.lt
  obtain ⟨es, clock, hb, _⟩ := hown
  refine ⟨h1, h2, ?_, ?_, ?_⟩
  · rintro rfl
    rw [h.cell] at hb; simp at hb
  · intro e
    rcases h.row.2 with ⟨rfl, _⟩ | ⟨g, cap, cur, rfl, _, hg, _⟩
    · simp [Value.ownBlock] at e
    · simp [Value.ownBlock] at e
      subst e
      rw [h.cell] at hg
      simp at hg
  · intro e
    rcases h.row.2 with ⟨rfl, _⟩ | ⟨g, cap, cur, rfl, _, hg, _⟩
    · simp [Value.ownBlock] at e
    · simp [Value.ownBlock] at e
      subst e
      rw [hb] at hg
      simp at hg

set_option maxHeartbeats 400000 in
theorem new9 (w : World) : Calls Try.prog 9 #[] w fun e w' => e = .returned (.pointer (some ⟨w.heap.size + 1, 0, none⟩)) ∧ Dist w' w.heap.size (w.heap.size + 1) w.heap.size (.slice none 0 0) [] ∧ w.grownBy w' none ∧ w'.heap.size = w.heap.size + 2 := by
  refine hidR fun R HR => ?_
  have hmm := @run_makeMap Try.prog
  go_enter Try.func9, Try.ntmps9
  go_wp2
  refine HR.out _ _ ⟨rfl, ⟨?_, World.ownsRow_nil _ _ _ _, ⟨.map [], (World.ownsMap_made _ _ _ _).alloc _, mapIs_nil⟩⟩, (World.grownBy_alloc w _ none).trans (World.grownBy_alloc _ _ none), by simp⟩
  have := heap_alloc_new (w.alloc (.map #[] 0)) (.cells #[Value.slice none 0 0, Value.map (some w.heap.size)] 33)
  simpa using this

set_option maxHeartbeats 400000 in
theorem place14_old (w : World) (base d bm : Nat) (lv : Value) (L : List ByteArray) (s : ByteArray) (h : Dist w base d bm lv L) (hs : s.size ≤ maxLen) (hin : s ∈ L) :
    Calls Try.prog 14 #[.pointer (some ⟨d, 0, none⟩), .string s] w fun e w' => e = .returned (.int .u32 (pos s L)) ∧ w = w' := by
  refine hidR fun R HR => ?_
  obtain ⟨D, hown, hD⟩ := h.map
  have hkey : keyOf Try.prog 9 (.string s) = some (kl s) := WideMaps.keyOf_string_mk Try.underlying9 hs
  have c0 := cell_of_row w d 0 _ _ _ h.cell
  have c1 := cell_of_row w d 1 _ _ _ h.cell
  simp at c0 c1
  have hh : Maps.has D (kl s) = true := by rw [(hD.2 s).1]; simp [pos_iff, hin]
  have ha := (hD.2 s).2 hin
  have HA := hide ha
  clear ha hD h
  go_enter Try.func14, Try.ntmps14
  go_wp2_with (first
    | (at_lookup; refine wpList_lookup_own_ok_int _ rfl _ _ 31 rfl 9 27 .u32 law9 Try.underlying31 Try.underlying27 (zero27 _) bm _ D rfl hown _ _ rfl hkey ?_; intro c hat hwc))
  have e : c = pos s L := by
    have := HA.out
    rw [hat] at this
    simpa using this
  subst e
  exact HR.out _ _ ⟨rfl, rfl⟩

/-- append of at least one element onto a slice of the call's own: the value's shape written out. -/
theorem wpList_append_shape {P : Program} (w : World) {ops : Array Oper} {rest : List Oper} {o : Oper} {a : Act} {Q : Exit → Act → World → Prop} (hgd : o.guard = none) (s x : Operand) (t : TypeId)
    (ho : o.op = .call { callee := .builtin .append, args := #[s, x], argTypes := #[t, t] })
    (base : Nat) (e : TypeId) (i : TypeInfo) (z : Value) (size bytes : Nat) (ht : P.underlying t = some (.slice e)) (hi : P.info? e = some i) (hz : i.zero = some z)
    (hsize : i.size = size) (hby : i.bytes = bytes) (hzs : z.cells.size = size) (hsz : 0 < size)
    (v : Value) (n : Nat) (xs : List Value) (hs : a.eval s = v) (hown : w.ownsRow base e size v n xs)
    (ad : Addr) (m c : Nat) (news : List Value) (hx : a.eval x = .slice (some ad) m c) (hl : news.length = m * size) (hnews : ∀ j u, news[j]? = some u → w.cell? (ad.add j) = some u) (h1 : ∀ u ∈ news, u.oneCell' = true)
    (h63 : n + m ≤ maxLen) (hbytes : (n + m) * bytes ≤ 140737488355328) (hbase : base ≤ w.heap.size) (hm : 0 < m)
    (h : ∀ g cap w', w'.ownsRow base e size (.slice (some ⟨g, 0, none⟩) (n + m) cap) (n + m) (xs ++ news) → w.grownBy w' v.ownBlock → (v.ownBlock = some g ∨ g = w.heap.size) → wpList P ops Q rest (a.put o.dst (.slice (some ⟨g, 0, none⟩) (n + m) cap)) w') :
    wpList P ops Q (o :: rest) a w := by
  refine wpList_append_own_at w hgd s x t ho base e i z size bytes ht hi hz hsize hby hzs hsz v n xs hs hown ad m c news hx hl hnews h1 h63 hbytes hbase ?_
  intro v' w' hown' hg _ hloc
  rcases hown'.2 with ⟨_, h0⟩ | ⟨g, cap, cur, rfl, r⟩
  · omega
  · refine h g cap w' hown' hg ?_
    rcases hloc with e | e
    · left; rw [← e]; rfl
    · right; simpa [Value.ownBlock] using e

theorem ownsRow_form {w : World} {base e size n : Nat} {v : Value} {xs : List Value} (h : w.ownsRow base e size v n xs) : ∃ ao cap, v = .slice ao n cap := by
  rcases h.2 with ⟨rfl, rfl⟩ | ⟨g, cap, cur, rfl, _⟩
  · exact ⟨_, _, rfl⟩
  · exact ⟨_, _, rfl⟩

/-- The row of one kind of cells is no block of another. -/
theorem row_ne_cells {w : World} {base e size n d t : Nat} {v : Value} {xs : List Value} {cs : Array Value} (h : w.ownsRow base e size v n xs) (hd : w.heap[d]? = some (.cells cs t (0, 0))) (hne : t ≠ e) : v.ownBlock ≠ some d := by
  intro e'
  rcases h.2 with ⟨rfl, _⟩ | ⟨g, cap, cur, rfl, _, hg, _⟩
  · simp [Value.ownBlock] at e'
  · simp [Value.ownBlock] at e'
    subst e'
    rw [hd] at hg
    simp at hg
    exact hne hg.2

theorem new_dist {w w1 : World} {base d bm : Nat} {lv : Value} {L : List ByteArray} {s : ByteArray} (h : Dist w base d bm lv L)
    {g cap : Nat} (hown : w1.ownsRow base 9 1 (.slice (some ⟨g, 0, none⟩) (L.length + 1) cap) (L.length + 1) (L.map Value.string ++ [.string s]))
    (hg : (w.alloc (.cells #[.string s] 9)).grownBy w1 lv.ownBlock) (hl : lv.ownBlock = some g ∨ g = (w.alloc (.cells #[.string s] 9)).heap.size) :
    w1.heap[d]? = some (.cells #[lv, .map (some bm)] 33 (0, 0)) ∧
    (w1.setCell ⟨d, 0, none⟩ (.slice (some ⟨g, 0, none⟩) (L.length + 1) cap)).heap[d]? = some (.cells #[.slice (some ⟨g, 0, none⟩) (L.length + 1) cap, .map (some bm)] 33 (0, 0)) ∧
    (w1.setCell ⟨d, 0, none⟩ (.slice (some ⟨g, 0, none⟩) (L.length + 1) cap)).ownsRow base 9 1 (.slice (some ⟨g, 0, none⟩) (L.length + 1) cap) (L ++ [s]).length ((L ++ [s]).map Value.string) ∧
    (∃ D : DataW Unit, (w1.setCell ⟨d, 0, none⟩ (.slice (some ⟨g, 0, none⟩) (L.length + 1) cap)).ownsMap Try.prog 9 (plainElem Try.prog 27) bm L.length D ∧ MapIs D L) ∧ d ≠ g ∧ bm ≠ g ∧
    Moved w (w1.setCell ⟨d, 0, none⟩ (.slice (some ⟨g, 0, none⟩) (L.length + 1) cap)) d bm lv (.slice (some ⟨g, 0, none⟩) (L.length + 1) cap) := by
  obtain ⟨l1, l2, l3, l4, l5⟩ := h.lt
  have hd1 : w1.heap[d]? = some (.cells #[lv, .map (some bm)] 33 (0, 0)) := by
    rw [hg.block d (by simp; omega) (fun e => l4 e.symm), heap_alloc_old w _ l1]; exact h.cell
  have dg : d ≠ g := by
    rcases hl with e | e
    · intro e'; exact l4 (by rw [e, e'])
    · simp at e; omega
  have bg : bm ≠ g := by
    rcases hl with e | e
    · intro e'; exact l5 (by rw [e, e'])
    · simp at e; omega
  refine ⟨hd1, ?_, ?_, ?_, dg, bg, ⟨hg.os, hg.tape, hg.output, ?_, ?_, ?_⟩⟩
  · rw [heap_setCell_same _ _ _ _ _ _ hd1]; simp
  · have := ownsRow_setCell_other (a := ⟨d, 0, none⟩) hown (by simp [Value.ownBlock]; exact fun e => dg e.symm) (.slice (some ⟨g, 0, none⟩) (L.length + 1) cap)
    simpa using this
  · obtain ⟨D, hm, hD⟩ := h.map
    exact ⟨D, ((hm.alloc _).kept hg (fun e => l5 e.symm)).setCell (fun e => l3 e.symm) _, hD⟩
  · have := hg.size
    simp at this ⊢
    omega
  · intro k hk kd kb kl
    rw [heap_setCell_other _ _ _ _ kd, hg.block k (by simp; omega) (fun e => kl e.symm), heap_alloc_old w _ hk]
  · rcases hl with e | e
    · left; rw [e]; rfl
    · right; refine ⟨g, rfl, ?_⟩; rw [e]; simp

theorem Moved.then {w w1 w2 : World} {d bm : Nat} {lv lv' : Value} (h : Moved w w1 d bm lv lv') (hg : w1.grownBy w2 (some bm)) : Moved w w2 d bm lv lv' :=
  ⟨hg.os.trans h.os, hg.tape.trans h.tape, hg.output.trans h.output, Nat.le_trans h.size hg.size, fun k hk kd kb kl => (hg.block k (Nat.lt_of_lt_of_le hk h.size) (by simpa using kb)).trans (h.block k hk kd kb kl), h.lies⟩

theorem end_dist {w1 w2 : World} {base d bm g cap : Nat} {L : List ByteArray} {s : ByteArray} {D : DataW Unit} (hin : s ∉ L)
    (h1 : w1.heap[d]? = some (.cells #[.slice (some ⟨g, 0, none⟩) (L.length + 1) cap, .map (some bm)] 33 (0, 0)))
    (h2 : w1.ownsRow base 9 1 (.slice (some ⟨g, 0, none⟩) (L.length + 1) cap) (L ++ [s]).length ((L ++ [s]).map Value.string)) (hD : MapIs D L) (db : d ≠ bm) (bg : bm ≠ g)
    (hm : w2.ownsMap Try.prog 9 (plainElem Try.prog 27) bm (L.length + 1) (D.put (kl s) (.lit (.int .u32 (L.length : Int))))) (hg : w1.grownBy w2 (some bm)) :
    Dist w2 base d bm (.slice (some ⟨g, 0, none⟩) (L.length + 1) cap) (L ++ [s]) := by
  have hd := (Array.getElem?_eq_some_iff.1 h1).1
  refine ⟨(hg.block d hd (by simpa using db)).trans h1, h2.kept hg (.inr (by simp [Value.ownBlock]; exact fun e => bg e.symm)), ⟨_, by simpa using hm, mapIs_put hD hin hm.isMap⟩⟩

theorem cells2 {w : World} {d t : Nat} {x y : Value} (h : w.heap[d]? = some (.cells #[x, y] t (0, 0))) : w.cell? ⟨d, 0, none⟩ = some x ∧ w.cell? ⟨d, 1, none⟩ = some y ∧ w.frozen? ⟨d, 0, none⟩ = false := by
  have c0 := cell_of_row w d 0 _ _ _ h
  have c1 := cell_of_row w d 1 _ _ _ h
  simp at c0 c1
  exact ⟨c0, c1, frozen_of_row w d 0 _ _ h⟩

set_option maxHeartbeats 400000 in
theorem place14_new (w : World) (base d bm : Nat) (lv : Value) (L : List ByteArray) (s : ByteArray) (h : Dist w base d bm lv L) (hs : s.size ≤ maxLen) (hin : s ∉ L) (hL : L.length ≤ 100000) (hbase : base ≤ w.heap.size) :
    Calls Try.prog 14 #[.pointer (some ⟨d, 0, none⟩), .string s] w fun e w' => ∃ lv', e = .returned (.int .u32 L.length) ∧ Dist w' base d bm lv' (L ++ [s]) ∧ Moved w w' d bm lv lv' := by
  refine hidR fun R HR => ?_
  obtain ⟨i0, hi, hz0, hz1, hz2⟩ := info_parts info9
  obtain ⟨ao, cap0, hlv⟩ := ownsRow_form h.row
  subst hlv
  have hlt := h.lt
  obtain ⟨D, hown, hD⟩ := h.map
  have hkey : keyOf Try.prog 9 (.string s) = some (kl s) := WideMaps.keyOf_string_mk Try.underlying9 hs
  obtain ⟨c0, c1, f0⟩ := cells2 h.cell
  have hh : Maps.has D (kl s) = false := by rw [(hD.2 s).1]; simp [pos_iff, hin]
  have hrow := h.row
  have H := hide h
  have HLT := hide hlt
  clear hD h hlt
  go_enter Try.func14, Try.ntmps14
  go_wp2_with (first
    | (at_lookup; refine wpList_lookup_own_ok_int _ rfl _ _ 31 rfl 9 27 .u32 law9 Try.underlying31 Try.underlying27 (zero27 _) bm _ D rfl hown _ _ rfl hkey ?_; intro c hat hwc)
    | (at_builtin; refine wpList_append_shape _ rfl _ _ 22 rfl base 9 i0 _ 1 16 Try.underlying22 hi hz0 hz1 hz2 rfl (by decide) (.slice ao L.length cap0) _ _ rfl (hrow.alloc _) ⟨w.heap.size, 0, none⟩ 1 1 [.string s] rfl rfl (cell_one_new _ _ _) (by simp [Value.oneCell']) (by unfold maxLen; omega) (by omega) (by simp; omega) (by decide) ?_; intro g cap w1 hown1 hgrow1 hloc; have N := hide (new_dist (unhide H) hown1 hgrow1 hloc); obtain ⟨d0, d1, e0⟩ := cells2 (unhide N).1; obtain ⟨D1, hmap1, HD1⟩ := (unhide N).2.2.2.1; have HD2 := hide HD1; clear HD1 hown1 hgrow1 hloc c0 c1 f0)
    | (at_mapUpdate; refine wpList_mapUpdate_own _ rfl _ _ _ 31 rfl 9 27 law9 Try.underlying31 _ bm _ D1 rfl hmap1 (by unfold maxLen; omega) _ _ _ rfl rfl hkey _ [] (plainElem_int Try.underlying27 (WalkArith.wf_u32 (by omega))) ?_; intro w2 hown2 hgrow2))
  exact HR.out _ _ ⟨_, rfl, end_dist hin (unhide N).2.1 (unhide N).2.2.1 (unhide HD2) (unhide HLT).2.2.1 (unhide N).2.2.2.2.2.1 hown2 hgrow2, ((unhide N).2.2.2.2.2.2).then hgrow2⟩
end Go.Proofs.Qxb6600162a
