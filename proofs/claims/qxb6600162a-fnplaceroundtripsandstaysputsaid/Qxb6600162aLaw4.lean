import Derived.Test.Qxb6600162aLaw3
namespace Go.Proofs.Qxb6600162a
open Go.RowKit Go.Maps

theorem info27 : (Try.prog.info? 27).map (fun i => (i.zero, i.size, i.bytes)) = some (some (.int .u32 0), 1, 4) := by kernel_rfl
theorem made27 (n : Nat) : (madeCells (Value.int .u32 0).cells (n * 1)).toList = List.replicate n (.int .u32 0) := by
  rw [Nat.mul_one]; exact toList_madeCells_one _ n

theorem mem_ins_self (L : List ByteArray) (s : ByteArray) : s ∈ ins L s := by
  by_cases h : s ∈ L
  · rw [ins_old h]; exact h
  · rw [ins_new h]; simp
theorem mem_ins {L : List ByteArray} {s t : ByteArray} (h : t ∈ L) : t ∈ ins L s := by
  by_cases h' : s ∈ L
  · rw [ins_old h']; exact h
  · rw [ins_new h']; simp [h]
theorem pos_ins {L : List ByteArray} {s t : ByteArray} (h : t ∈ L) : pos t (ins L s) = pos t L := by
  by_cases h' : s ∈ L
  · rw [ins_old h']
  · rw [ins_new h']; exact pos_app h
theorem mem_foldl : ∀ (ss L : List ByteArray) (t : ByteArray), t ∈ L ∨ t ∈ ss → t ∈ ss.foldl ins L
  | [], L, t, h => by simpa using h
  | s :: r, L, t, h => by
    refine mem_foldl r (ins L s) t ?_
    rcases h with h | h
    · exact .inl (mem_ins h)
    · rcases List.mem_cons.1 h with e | e
      · subst e; exact .inl (mem_ins_self L t)
      · exact .inr e
theorem mem_dis {ss : List ByteArray} {t : ByteArray} (h : t ∈ ss) : t ∈ dis ss := mem_foldl ss [] t (.inr h)

/-- What first holds behind k rounds. -/
def firsts (xs : List ByteArray) (n k : Nat) (L : List ByteArray) : List Value := (xs.take k).map (fun t => Value.int .u32 (pos t L)) ++ List.replicate (n - k) (.int .u32 0)

theorem fill_step (xs : List ByteArray) (f : ByteArray → Value) (z : Value) (n k : Nat) (hk : k < n) (hn : xs.length = n) :
    ((xs.take k).map f ++ List.replicate (n - k) z).set k (f (xs.getD k ByteArray.empty)) = (xs.take (k + 1)).map f ++ List.replicate (n - (k + 1)) z := by
  have e1 : ((xs.take k).map f).length = k := by simp; omega
  obtain ⟨m, hm⟩ : ∃ m, n - k = m + 1 := ⟨n - k - 1, by omega⟩
  have e3 : n - (k + 1) = m := by omega
  have e2 : xs.getD k ByteArray.empty = xs[k]'(by omega) := by simp [List.getD, show k < xs.length by omega]
  rw [hm, e3, List.replicate_succ, List.set_append_right _ _ (by omega), e1, Nat.sub_self, List.set_cons_zero, List.take_succ_eq_append_getElem (by omega), List.map_append, e2]
  simp

theorem firsts_step (xs : List ByteArray) (n k : Nat) (hk : k < n) (hn : xs.length = n) :
    (firsts xs n k (dis (xs.take k))).set k (.int .u32 (pos (xs.getD k ByteArray.empty) (dis (xs.take (k + 1))))) = firsts xs n (k + 1) (dis (xs.take (k + 1))) := by
  have hst := dis_step xs k (by omega)
  unfold firsts
  have e0 : (xs.take k).map (fun t => Value.int .u32 (pos t (dis (xs.take k)))) = (xs.take k).map (fun t => Value.int .u32 (pos t (dis (xs.take (k + 1))))) := by
    apply List.map_congr_left
    intro t ht
    rw [hst, pos_ins (mem_dis ht)]
  rw [e0]
  exact fill_step xs (fun t => Value.int .u32 (pos t (dis (xs.take (k + 1))))) _ n k hk hn

theorem firsts_full {xs : List ByteArray} {n k : Nat} {L : List ByteArray} (hn : xs.length = n) (hk : k < n) : (firsts xs n n L)[k]? = some (.int .u32 (pos (xs.getD k ByteArray.empty) L)) := by
  unfold firsts
  rw [List.take_of_length_le (by omega)]
  simp [List.getD, show k < xs.length by omega]

theorem pos_step (xs : List ByteArray) (k : Nat) (h : k < xs.length) (hin : xs.getD k ByteArray.empty ∈ dis (xs.take k)) : dis (xs.take (k + 1)) = dis (xs.take k) := by
  rw [dis_step xs k h, ins_old hin]

structure St4 (w wr : World) (d bm S : Nat) (lv vx : Value) (n : Nat) (ss L : List ByteArray) (F : List Value) : Prop where
  dist : Dist wr w.heap.size d bm lv L
  xs : wr.ownsRow w.heap.size 9 1 vx n (ss.map Value.string)
  first : wr.ownsRow w.heap.size 27 1 (.slice (some ⟨S, 0, none⟩) n n) n F
  a1 : ∀ g, lv.ownBlock = some g → vx.ownBlock ≠ some g
  low : w.heap.size ≤ d ∧ w.heap.size ≤ bm ∧ w.heap.size ≤ S
  below : Below w.heap.size w wr

theorem rows_apart {w : World} {b b' e e' z z' n n' S : Nat} {v : Value} {xs ys : List Value} {cap : Nat} (h : w.ownsRow b e z v n xs) (h' : w.ownsRow b' e' z' (.slice (some ⟨S, 0, none⟩) n' cap) n' ys) (hne : e ≠ e') : v.ownBlock ≠ some S := by
  rcases h'.2 with ⟨e1, _⟩ | ⟨g, cap', cur, e1, _, hg, _⟩
  · cases e1
  · cases e1
    exact fun hv => row_ne_cells h hg (fun e => hne e.symm) hv

theorem Moved.row27 {w w' : World} {base d bm n S : Nat} {lv lv' : Value} {L : List ByteArray} {xs : List Value} (hm : Moved w w' d bm lv lv') (h : Dist w base d bm lv L) (hr : w.ownsRow base 27 1 (.slice (some ⟨S, 0, none⟩) n n) n xs) :
    w'.ownsRow base 27 1 (.slice (some ⟨S, 0, none⟩) n n) n xs := by
  have h1 := row_ne_cells hr h.cell (by decide)
  have h2 : (Value.slice (some ⟨S, 0, none⟩) n n).ownBlock ≠ some bm := by
    obtain ⟨D, ⟨es, c, hb, _⟩, _⟩ := h.map
    exact row_ne_map hr hb
  have h3 := rows_apart h.row hr (by decide)
  refine ⟨hr.1, ?_⟩
  rcases hr.2 with hn | ⟨g, cap, cur, e, hb, hg, r⟩
  · exact .inl hn
  · cases e
    refine .inr ⟨S, n, cur, rfl, hb, ?_, r⟩
    rw [hm.block S (Array.getElem?_eq_some_iff.1 hg).1 (by intro e; subst e; exact h1 rfl) (by intro e; subst e; exact h2 rfl) h3]
    exact hg

theorem st4_moved {w wr w4 : World} {d bm S : Nat} {lv lv' vx : Value} {n : Nat} {ss L L' : List ByteArray} {F : List Value} (st : St4 w wr d bm S lv vx n ss L F) (hd : Dist w4 w.heap.size d bm lv' L') (hm : Moved wr w4 d bm lv lv') :
    St4 w w4 d bm S lv' vx n ss L' F :=
  ⟨hd, hm.row st.dist st.xs st.a1, hm.row27 st.dist st.first, hm.apart st.xs st.a1, st.low,
    st.below.trans (hm.below st.below.size st.low.1 st.low.2.1 (fun g hg => (st.dist.row.lt g hg).1))⟩

theorem St4.drewN {w wr : World} {d bm S : Nat} {lv vx : Value} {n : Nat} {ss L : List ByteArray} {F : List Value} (h : St4 w wr d bm S lv vx n ss L F) (m : Nat) : St4 w (wr.drewN m) d bm S lv vx n ss L F :=
  ⟨h.dist.drewN m, h.xs, h.first, h.a1, h.low, ⟨h.below.os, h.below.tape, h.below.output, h.below.size, h.below.block⟩⟩

theorem st4_store {w wr : World} {d bm S : Nat} {lv vx : Value} {n k : Nat} {ss L : List ByteArray} {F : List Value} (st : St4 w wr d bm S lv vx n ss L F) (u : Value) :
    St4 w (wr.setCell ⟨S, k, none⟩ u) d bm S lv vx n ss L (F.set k u) := by
  obtain ⟨h1, h2⟩ := st.first.stored k u
  have e1 : d ≠ S := fun e => row_ne_cells st.first st.dist.cell (by decide) (by simp [Value.ownBlock, e])
  have e2 : bm ≠ S := by
    intro e
    obtain ⟨D, ⟨es, c, hb, _⟩, _⟩ := st.dist.map
    exact row_ne_map st.first hb (by simp [Value.ownBlock, e])
  exact ⟨st.dist.kept h2 e1 e2 (rows_apart st.dist.row st.first (by decide)), st.xs.kept h2 (.inr (rows_apart st.xs st.first (by decide))), h1, st.a1, st.low,
    st.below.grown h2 st.below.size (fun k hk => by cases hk; exact st.low.2.2)⟩

theorem st4_cell {w wr : World} {d bm S : Nat} {lv vx : Value} {n k : Nat} {ss L : List ByteArray} {F : List Value} (st : St4 w wr d bm S lv vx n ss L F) (hk : k < n) :
    wr.frozen? ⟨S, k, none⟩ = false ∧ ∃ u, wr.cell? ⟨S, k, none⟩ = some u := by
  have hl : F.length = n := by simpa using st.first.1
  refine ⟨st.first.frozenAt k, F[k]'(by omega), ?_⟩
  rw [st.first.cellAt k (by omega), List.getElem?_eq_getElem (by omega)]

theorem st4_start {w w1 w2 w3 : World} {vx : Value} {n : Nat} {ss : List ByteArray} {F : List Value} (hx1 : w1.ownsRow w.heap.size 9 1 vx n (ss.map Value.string)) (hgx : w.grownBy w1 none)
    (hd2 : Dist w2 w1.heap.size (w1.heap.size + 1) w1.heap.size (.slice none 0 0) []) (hg2 : w1.grownBy w2 none) (hs2 : w2.heap.size = w1.heap.size + 2)
    (hown3 : w3.ownsRow w.heap.size 27 1 (.slice (some ⟨w1.heap.size + 2, 0, none⟩) n n) n F) (hgrow3 : w2.grownBy w3 none) :
    St4 w w3 (w1.heap.size + 1) w1.heap.size (w1.heap.size + 2) (.slice none 0 0) vx n ss [] F := by
  have hz := hgx.size
  obtain ⟨D, hm, hD⟩ := hd2.map
  have hlt := hd2.lt
  refine ⟨⟨(hgrow3.block _ hlt.1 (by simp)).trans hd2.cell, World.ownsRow_nil _ _ _ _, ⟨D, hm.kept hgrow3 (by simp), hD⟩⟩, ?_, hown3, by simp [Value.ownBlock], ⟨by omega, hz, by omega⟩, ?_⟩
  · exact (hx1.kept hg2 (by cases vx.ownBlock <;> simp)).kept hgrow3 (by cases vx.ownBlock <;> simp)
  · exact ((grown_below hgx (Nat.le_refl _)).trans (grown_below hg2 hz)).trans (grown_below hgrow3 (by omega))

set_option maxRecDepth 100000 in
set_option maxHeartbeats 2000000 in
theorem law4 (a : Option Addr) (len cap : Nat) (ss : List ByteArray) (w : World) (h : Texts w a len ss) (hm : len ≤ 9223372036854775807) (hsz : ∀ s ∈ ss, s.size ≤ maxLen) :
    Calls Try.prog 4 #[.slice a len cap] w fun e w' => e = .returned (.bool true) ∧ Below w.heap.size w w' := by
  refine hidR fun R HR => ?_
  obtain ⟨i0, hi, hz0, hz1, hz2⟩ := info_parts info27
  have C6 := hide (bytes12 a len cap ss w h hm)
  have C7 := hide (fits7 a len cap ss w h hm)
  have C8 := hide (fun hle => clone8 a len cap ss w h hle)
  have hln := h.1
  clear h
  go_enter Try.func4, Try.ntmps4
  go_wp2_with (first
    | (go_at_call 12; refine (unhide C6).mono ?_; rintro e w' ⟨b6, rfl, rfl⟩; cases b6)
    | (go_at_call 7; refine (unhide C7).mono ?_; rintro e w' ⟨b7, rfl, rfl, h7⟩; cases b7))
  · exact HR.out _ _ ⟨rfl, Below.refl _ _⟩
  · exact HR.out _ _ ⟨rfl, Below.refl _ _⟩
  · have hle : len ≤ 4096 := by simpa using h7
    refine ((unhide C8) hle).mono ?_
    rintro e w1 ⟨vx, rfl, hx1, hgx⟩
    obtain ⟨ao, capx, rfl⟩ := ownsRow_form hx1
    clear C6 C7 C8 h7
    go_wp2_with (first
      | (go_at_call 9; refine (new9 _).mono ?_; rintro e w2 ⟨rfl, hd2, hg2, hs2⟩)
      | (at_make; refine wpList_make_full _ rfl _ _ 30 rfl w.heap.size 27 i0 _ 1 Try.underlying30 hi hz0 hz1 _ _ _ _ len rfl rfl rfl rfl (by rw [hz2]; omega) (by unfold maxLen; omega) (by have := hgx.size; have := hg2.size; omega) ?_; intro w3 hown3 hgrow3))
    obtain ⟨xs, hxs⟩ : ∃ xs, xs = ss.take len := ⟨_, rfl⟩
    have hxl : xs.length = len := by rw [hxs]; simp; omega
    have hsx : ∀ k, (xs.getD k ByteArray.empty).size ≤ maxLen := by
      intro k
      by_cases hk : k < xs.length
      · have : xs.getD k ByteArray.empty ∈ xs := by simp [List.getD, hk]
        rw [hxs] at this
        exact hsz _ (List.mem_of_mem_take (by rw [hxs]; exact this))
      · simp [List.getD, List.getElem?_eq_none (Nat.le_of_not_lt hk), ByteArray.size_empty, maxLen]
    rw [← hxs] at hx1
    rw [made27] at hown3
    have ST := st4_start hx1 hgx hd2 hg2 hs2 (by rw [hs2] at hown3; exact hown3) hgrow3
    clear hxs hx1 hgx hd2 hg2 hown3 hgrow3 hsz hln hs2 w2
    obtain ⟨d, hd⟩ : ∃ d, d = w1.heap.size + 1 := ⟨_, rfl⟩
    obtain ⟨bm, hbm⟩ : ∃ d, d = w1.heap.size := ⟨_, rfl⟩
    obtain ⟨S, hS⟩ : ∃ d, d = w1.heap.size + 2 := ⟨_, rfl⟩
    rw [← hd, ← hS, ← hbm] at ST
    rw [← hd, ← hS]
    clear hd hS hbm w1
    go_loopw [5] (fun i wr => ∃ (k : Nat) (lv : Value), k ≤ len ∧ i = .int .i64 k ∧ St4 w wr d bm S lv (.slice ao len capx) len xs (dis (xs.take k)) (firsts xs len k (dis (xs.take k)))) (fun i _ => len - (intOf i).toNat)
    case atStart => exact ⟨0, _, Nat.zero_le _, rfl, by simpa [firsts, dis] using ST⟩
    case round =>
      clear ST w3
      obtain ⟨k, lv, hk, rfl, st⟩ := hrel
      by_cases hlt : k < len
      · obtain ⟨gx, rfl, hcx⟩ := row_at st.xs hlt
        have hdl := dis_len xs k
        have hds := dis_step xs k (by omega)
        have hfs := firsts_step xs len k hlt hxl
        have hs := hsx k
        obtain ⟨L, hL⟩ : ∃ L, L = dis (xs.take k) := ⟨_, rfl⟩
        obtain ⟨s, hs'⟩ : ∃ s, s = xs.getD k ByteArray.empty := ⟨_, rfl⟩
        rw [← hL] at st hdl hds hfs
        rw [← hs'] at hcx hds hs hfs
        have HDS := hide hds
        have HFS := hide hfs
        have SK := hide hs'
        clear hL hs' hds hfs
        by_cases hin : s ∈ L
        · have C10 := hide (place10_old wr _ d bm lv L s st.dist hs hin)
          have hp := pos_lt hin
          obtain ⟨al, capl, rfl⟩ := ownsRow_form st.dist.row
          obtain ⟨gl, rfl, hcl⟩ := row_at st.dist.row hp
          rw [pos_at hin] at hcl
          have C11 := hide (list11 wr _ d bm _ L st.dist)
          go_wp2_with (first
            | (go_at_call 10; refine (unhide C10).mono ?_; rintro e w' ⟨rfl, rfl⟩)
            | (go_at_call 11; refine (unhide C11).mono ?_; rintro e w' ⟨rfl, rfl⟩))
          have hwp : IntKind.i64.wrap (pos s L : Int) = (pos s L : Int) := by rw [IntKind.wrap_i64]; omega
          have hnd : decide (L.length ≤ pos s L) = false := by simp; omega
          go_quiet (fail)
          clear hwp hnd
          have C10' := hide (place10_old (wr.drewN nq) _ d bm _ L s (st.dist.drewN nq) hs hin)
          have C11' := hide (list11 (wr.drewN nq) _ d bm _ L (st.dist.drewN nq))
          obtain ⟨hfz, uo, hold⟩ := st4_cell st hlt
          go_wp2_with (first
            | (go_at_call 10; refine (unhide C10').mono ?_; rintro e w' ⟨rfl, rfl⟩)
            | (go_at_call 11; refine (unhide C11').mono ?_; rintro e w' ⟨rfl, rfl⟩))
          have ST5 := st4_store (k := k) (st.drewN nq) (.int .u32 (pos s L))
          go_roundw
          case rel =>
            refine ⟨k + 1, .slice (some ⟨gl, 0, none⟩) L.length capl, by omega, by go_num, ?_⟩
            rw [← HFS.out, HDS.out, ins_old hin]
            exact ST5
          case measure => simp [intOf]; omega
        · have C10 := hide (place10_new wr _ d bm lv L s st.dist hs hin (by omega) st.below.size)
          have C11 := hide (list11 wr _ d bm _ L st.dist)
          obtain ⟨al, capl, rfl⟩ := ownsRow_form st.dist.row
          have ST := hide st
          clear st
          go_wp2_with fail
          refine (unhide C11).mono ?_
          rintro e w' ⟨rfl, rfl⟩
          go_wp2_with fail
          refine (unhide C10).mono ?_
          rintro e w4 ⟨lv', rfl, hdist, hmoved⟩
          go_wp2_with fail
          · have st := st4_moved (unhide ST) hdist hmoved
            have hcx4 : w4.cell? ⟨gx, k, none⟩ = some (.string s) := by
              rw [SK.out]
              obtain ⟨g, hg, hc⟩ := row_at st.xs hlt
              cases hg
              exact hc
            clear hdist hmoved C10 C11 hcx
            obtain ⟨M, hM⟩ : ∃ M, M = L ++ [s] := ⟨_, rfl⟩
            have hml : L.length + 1 ≤ M.length := by rw [hM]; simp
            have hml' : M.length ≤ L.length + 1 := by rw [hM]; simp
            have hmg : M.getD L.length ByteArray.empty = s := by rw [hM]; simp
            have hmin : s ∈ M := by rw [hM]; simp
            have hmp : pos s M = L.length := by rw [hM]; exact pos_new hin
            rw [← hM] at st
            have HM := hide hM
            clear hM
            obtain ⟨al', capl', rfl⟩ := ownsRow_form st.dist.row
            obtain ⟨gl, rfl, hcl⟩ := row_at st.dist.row (k := L.length) (by omega)
            rw [hmg] at hcl
            have HMP := hide hmp
            clear hmg hmp
            have C11 := hide (list11 w4 _ d bm _ M st.dist)
            refine (unhide C11).mono ?_
            rintro e w' ⟨rfl, rfl⟩
            go_wp2_with fail
            have hwp : IntKind.i64.wrap (L.length : Int) = (L.length : Int) := by rw [IntKind.wrap_i64]; omega
            have hnd : decide (M.length ≤ L.length) = false := by simp; omega
            go_quiet (fail)
            clear hwp hnd C11
            have C10' := hide (place10_old (w4.drewN nq) _ d bm _ M s (st.dist.drewN nq) hs hmin)
            have C11' := hide (list11 (w4.drewN nq) _ d bm _ M (st.dist.drewN nq))
            rw [HMP.out] at C10'
            obtain ⟨hfz, uo, hold⟩ := st4_cell st hlt
            have hb1 : ((M.length : Int) != (L.length : Int)) = true := by simp; omega
            have hb2 : ((M.length : Int) != (L.length : Int) + 1) = false := by simp; omega
            go_wp2_with (first
              | (go_at_call 10; refine (unhide C10').mono ?_; rintro e w' ⟨rfl, rfl⟩)
              | (go_at_call 11; refine (unhide C11').mono ?_; rintro e w' ⟨rfl, rfl⟩))
            have ST5 := st4_store (k := k) (st.drewN nq) (.int .u32 (L.length : Int))
            go_roundw
            case rel =>
              refine ⟨k + 1, .slice (some ⟨gl, 0, none⟩) M.length capl', by omega, by go_num, ?_⟩
              rw [← HFS.out, HDS.out, ins_new hin, ← HM.out, HMP.out]
              exact ST5
            case measure => simp [intOf]; omega
      · obtain rfl : k = len := by omega
        obtain ⟨L, hL⟩ : ∃ L, L = dis (xs.take k) := ⟨_, rfl⟩
        have hdl := dis_len xs k
        have hall : ∀ m, m < k → xs.getD m ByteArray.empty ∈ L := by
          intro m hm
          rw [hL, List.take_of_length_le (by omega)]
          exact mem_dis (by simp [List.getD, show m < xs.length by omega])
        rw [← hL] at st hdl
        have HALL := hide hall
        clear hL hall
        obtain ⟨al, capl, rfl⟩ := ownsRow_form st.dist.row
        have C11 := hide (fun nq => list11 (wr.drewN nq) _ d bm _ L (st.dist.drewN nq))
        have C11' := hide ((unhide C11) 0)
        go_wp2_with (go_at_call 11; refine (unhide C11').mono ?_; rintro e w' ⟨rfl, rfl⟩)
        go_loopw [11] (fun j wj => ∃ (m nq : Nat), j = .int .i64 m ∧ m ≤ k ∧ wr.drewN nq = wj) (fun j _ => k - (intOf j).toNat)
        case atStart => exact ⟨0, 0, rfl, Nat.zero_le _, rfl⟩
        case round =>
          obtain ⟨m, nq, rfl, hmp, rfl⟩ := hrel
          by_cases hme : m < k
          · obtain ⟨gx, rfl, hcx⟩ := row_at st.xs hme
            have hf : wr.cell? ⟨S, m, none⟩ = some (.int .u32 (pos (xs.getD m ByteArray.empty) L)) := by rw [st.first.cellAt m (by omega), firsts_full hxl hme]
            have C10 := hide (fun n' => place10_old (wr.drewN n') _ d bm _ L _ (st.dist.drewN n') (hsx m) (HALL.out m hme))
            have hpos := pos_lt (HALL.out m hme)
            obtain ⟨s, hs'⟩ : ∃ s, s = xs.getD m ByteArray.empty := ⟨_, rfl⟩
            rw [← hs'] at hcx hf C10 hpos
            clear hs'
            go_wp2
            go_quiet ((go_at_call 10; exact ((unhide C10) _).mono (fun e w' h => ⟨h.1, _, h.2.symm⟩)))
            go_wp2
            go_roundw
            case rel => exact ⟨m + 1, _, by go_num, by omega, rfl⟩
            case measure => simp [intOf]; omega
          · have C := hide ((unhide C11) nq)
            go_wp2_with (go_at_call 11; refine (unhide C).mono ?_; rintro e w' ⟨rfl, rfl⟩)
            exact HR.out _ _ ⟨rfl, (st.drewN _).below⟩
end Go.Proofs.Qxb6600162a
