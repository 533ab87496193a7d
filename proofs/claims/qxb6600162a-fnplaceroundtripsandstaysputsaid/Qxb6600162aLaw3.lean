import Derived.Test.Qxb6600162aTools
namespace Go.Proofs.Qxb6600162a
open Go.RowKit Go.Maps

/-- What holds at the head of every round of the first loop. -/
structure St (w wr : World) (d bm S : Nat) (lv vx : Value) (n : Nat) (ss L M : List ByteArray) : Prop where
  dist : Dist wr w.heap.size d bm lv L
  xs : wr.ownsRow w.heap.size 9 1 vx n (ss.map Value.string)
  seen : wr.ownsRow w.heap.size 9 1 (.slice (some ⟨S, 0, none⟩) M.length n) M.length (M.map Value.string)
  a1 : ∀ g, lv.ownBlock = some g → vx.ownBlock ≠ some g
  a2 : lv.ownBlock ≠ some S
  a3 : vx.ownBlock ≠ some S
  low : w.heap.size ≤ d ∧ w.heap.size ≤ bm ∧ w.heap.size ≤ S
  below : Below w.heap.size w wr

theorem row_at {w : World} {base n k : Nat} {ao : Option Addr} {cap : Nat} {ss : List ByteArray} (h : w.ownsRow base 9 1 (.slice ao n cap) n (ss.map Value.string)) (hk : k < n) :
    ∃ g, ao = some ⟨g, 0, none⟩ ∧ w.cell? ⟨g, k, none⟩ = some (.string (ss.getD k ByteArray.empty)) := by
  have hl : ss.length = n := by simpa using h.1
  rcases h.2 with ⟨e, h0⟩ | ⟨g, cap', cur, e, _⟩
  · omega
  · simp only [Value.slice.injEq] at e
    obtain ⟨rfl, _, rfl⟩ := e
    refine ⟨g, rfl, ?_⟩
    rw [h.cellAt k (by omega)]
    simp [List.getD, show k < ss.length by omega]

theorem ownsRow_low {w : World} {b b' e size n : Nat} {v : Value} {xs : List Value} (h : w.ownsRow b e size v n xs) (hb : b' ≤ b) : w.ownsRow b' e size v n xs := by
  refine ⟨h.1, ?_⟩
  rcases h.2 with hn | ⟨g, cap, cur, rfl, hg, r⟩
  · exact .inl hn
  · exact .inr ⟨g, cap, cur, rfl, Nat.le_trans hb hg, r⟩

theorem grown_below {w w' : World} {B : Nat} (h : w.grownBy w' none) (hB : B ≤ w.heap.size) : Below B w w' := (Below.refl B w).grown h hB (by simp)

theorem st_start {w w1 w2 w3 : World} {vx : Value} {n : Nat} {ss : List ByteArray} (hx1 : w1.ownsRow w.heap.size 9 1 vx n (ss.map Value.string)) (hgx : w.grownBy w1 none)
    (hd2 : Dist w2 w1.heap.size (w1.heap.size + 1) w1.heap.size (.slice none 0 0) []) (hg2 : w1.grownBy w2 none) (hs2 : w2.heap.size = w1.heap.size + 2)
    (hown3 : w3.ownsRow w.heap.size 9 1 (.slice (some ⟨w1.heap.size + 2, 0, none⟩) 0 n) 0 []) (hgrow3 : w2.grownBy w3 none) :
    St w w3 (w1.heap.size + 1) w1.heap.size (w1.heap.size + 2) (.slice none 0 0) vx n ss [] [] := by
  have hz := hgx.size
  have k1 : ∀ g, vx.ownBlock = some g → g < w1.heap.size := fun g hg => (hx1.lt g hg).2
  obtain ⟨D, hm, hD⟩ := hd2.map
  have hlt := hd2.lt
  refine ⟨⟨(hgrow3.block _ hlt.1 (by simp)).trans hd2.cell, World.ownsRow_nil _ _ _ _, ⟨D, hm.kept hgrow3 (by simp), hD⟩⟩, ?_, hown3, by simp [Value.ownBlock], by simp [Value.ownBlock], ?_, ⟨by omega, hz, by omega⟩, ?_⟩
  · exact (hx1.kept hg2 (by cases vx.ownBlock <;> simp)).kept hgrow3 (by cases vx.ownBlock <;> simp)
  · intro e
    have := k1 _ e
    omega
  · exact ((grown_below hgx (Nat.le_refl _)).trans (grown_below hg2 hz)).trans (grown_below hgrow3 (by omega))

theorem pos_at {s : ByteArray} {L : List ByteArray} (h : s ∈ L) : L.getD (pos s L) ByteArray.empty = s := by simp [List.getD, pos_get h]
theorem pos_before {s : ByteArray} : ∀ {L : List ByteArray} {m : Nat}, m < pos s L → L.getD m ByteArray.empty ≠ s
  | x :: r, m, h => by
    by_cases e : x = s
    · simp [pos, e] at h
    · cases m with
      | zero => simpa using e
      | succ m =>
        have : m < pos s r := by simp [pos, e] at h; exact h
        simpa using pos_before this

theorem St.drewN {w wr : World} {d bm S : Nat} {lv vx : Value} {n : Nat} {ss L M : List ByteArray} (h : St w wr d bm S lv vx n ss L M) (m : Nat) : St w (wr.drewN m) d bm S lv vx n ss L M :=
  ⟨h.dist.drewN m, h.xs, h.seen, h.a1, h.a2, h.a3, h.low, ⟨h.below.os, h.below.tape, h.below.output, h.below.size, h.below.block⟩⟩

theorem st_moved {w wr w4 : World} {d bm S : Nat} {lv lv' vx : Value} {n : Nat} {ss L M L' : List ByteArray} (st : St w wr d bm S lv vx n ss L M) (hd : Dist w4 w.heap.size d bm lv' L') (hm : Moved wr w4 d bm lv lv') :
    St w w4 d bm S lv' vx n ss L' M :=
  ⟨hd, hm.row st.dist st.xs st.a1, hm.row st.dist st.seen (fun g hg e => st.a2 (by rw [hg]; simpa [Value.ownBlock] using e.symm)), hm.apart st.xs st.a1,
    fun e => hm.apart st.seen (fun g hg e => st.a2 (by rw [hg]; simpa [Value.ownBlock] using e.symm)) S e rfl, st.a3, st.low,
    st.below.trans (hm.below st.below.size st.low.1 st.low.2.1 (fun g hg => (st.dist.row.lt g hg).1))⟩

theorem cell_moved {w wr w4 : World} {d bm S gx cx : Nat} {lv lv' : Value} {n k : Nat} {ss L M : List ByteArray} (st : St w wr d bm S lv (.slice (some ⟨gx, 0, none⟩) n cx) n ss L M) (hm : Moved wr w4 d bm lv lv') (hk : k < n) :
    w4.cell? ⟨gx, k, none⟩ = some (.string (ss.getD k ByteArray.empty)) := by
  obtain ⟨g, hg, hc⟩ := row_at (hm.row st.dist st.xs st.a1) hk
  cases hg
  exact hc

theorem st_append {w w4 w5 : World} {d bm S : Nat} {lv vx : Value} {n : Nat} {ss L M : List ByteArray} {s : ByteArray} (st : St w w4 d bm S lv vx n ss L M) (hg : (w4.alloc (.cells #[.string s] 9)).grownBy w5 (some S))
    (hown : w5.ownsRow w.heap.size 9 1 (.slice (some ⟨S, 0, none⟩) (M.length + 1) n) (M.length + 1) (M.map Value.string ++ [.string s])) : St w w5 d bm S lv vx n ss L (M ++ [s]) := by
  have hall : w4.grownBy w5 (some S) := (World.grownBy_alloc w4 _ _).trans hg
  have e1 : d ≠ S := by
    intro e
    have := row_ne_cells st.seen st.dist.cell (by decide)
    exact this (by simp [Value.ownBlock, e])
  have e2 : bm ≠ S := by
    intro e
    obtain ⟨D, ⟨es, c, hb, _⟩, _⟩ := st.dist.map
    exact row_ne_map st.seen hb (by simp [Value.ownBlock, e])
  refine ⟨st.dist.kept hall e1 e2 st.a2, st.xs.kept hall (.inr st.a3), by simpa using hown, st.a1, st.a2, st.a3, st.low, st.below.grown hall st.below.size (fun k hk => by cases hk; exact st.low.2.2)⟩

theorem str_ne {t s : ByteArray} (h : t ≠ s) : (t.toList == s.toList) = false := by
  rw [ByteArray.toList_eq, ByteArray.toList_eq]
  simp
  exact fun e => h (WideShapes.bytes_inj (by rw [e]))

set_option maxHeartbeats 1000000 in
theorem law3 (a : Option Addr) (len cap : Nat) (ss : List ByteArray) (w : World) (h : Texts w a len ss) (hm : len ≤ 9223372036854775807) (hsz : ∀ s ∈ ss, s.size ≤ maxLen) :
    Calls Try.prog 3 #[.slice a len cap] w fun e w' => e = .returned (.bool true) ∧ Below w.heap.size w w' := by
  refine hidR fun R HR => ?_
  obtain ⟨i0, hi, hz0, hz1, hz2⟩ := info_parts info9
  have C6 := hide (bytes6 a len cap ss w h hm)
  have C7 := hide (fits7 a len cap ss w h hm)
  have C8 := hide (fun hle => clone8 a len cap ss w h hle)
  have hln := h.1
  clear h
  go_enter Try.func3, Try.ntmps3
  go_wp2_with (first
    | (go_at_call 6; refine (unhide C6).mono ?_; rintro e w' ⟨b6, rfl, rfl⟩; cases b6)
    | (go_at_call 7; refine (unhide C7).mono ?_; rintro e w' ⟨b7, rfl, rfl, h7⟩; cases b7))
  · exact HR.out _ _ ⟨rfl, Below.refl _ _⟩
  · exact HR.out _ _ ⟨rfl, Below.refl _ _⟩
  · have hle : len ≤ 4096 := by simpa using h7
    refine ((unhide C8) hle).mono ?_
    rintro e w1 ⟨vx, rfl, hx1, hgx⟩
    obtain ⟨ao, capx, rfl⟩ := ownsRow_form hx1
    clear C6 C7 C8 h7
    go_wp2_with (first
      | (go_at_call 9; refine (new9 _).mono ?_; rintro e w2 ⟨rfl, hd2, hg2, hs2⟩)
      | (at_make; refine wpList_make_own _ rfl _ _ 22 rfl w.heap.size 9 i0 _ 1 Try.underlying22 hi hz0 hz1 _ _ _ len rfl rfl rfl (by rw [hz2]; omega) (by unfold maxLen; omega) (by have := hgx.size; have := hg2.size; omega) ?_; intro w3 hown3 hgrow3))
    obtain ⟨xs, hxs⟩ : ∃ xs, xs = ss.take len := ⟨_, rfl⟩
    have hxl : xs.length = len := by rw [hxs]; simp; omega
    have hsx : ∀ k, (xs.getD k ByteArray.empty).size ≤ maxLen := by
      intro k
      by_cases hk : k < xs.length
      · have : xs.getD k ByteArray.empty ∈ xs := by simp [List.getD, hk]
        rw [hxs] at this
        exact hsz _ (List.mem_of_mem_take (by rw [hxs]; exact this))
      · simp [List.getD, List.getElem?_eq_none (Nat.le_of_not_lt hk), ByteArray.size_empty, maxLen]
    rw [← hxs] at hx1
    have ST := st_start hx1 hgx hd2 hg2 hs2 (by rw [hs2] at hown3; exact hown3) hgrow3
    clear hxs hx1 hgx hd2 hg2 hown3 hgrow3 hsz hln hs2 w2
    obtain ⟨d, hd⟩ : ∃ d, d = w1.heap.size + 1 := ⟨_, rfl⟩
    obtain ⟨bm, hbm⟩ : ∃ d, d = w1.heap.size := ⟨_, rfl⟩
    obtain ⟨S, hS⟩ : ∃ d, d = w1.heap.size + 2 := ⟨_, rfl⟩
    rw [← hd, ← hS, ← hbm] at ST
    rw [← hd, ← hS]
    clear hd hS hbm w1
    go_loopw [4, 5] (fun v i wr => ∃ (k : Nat) (lv : Value), k ≤ len ∧ i = .int .i64 k ∧ v = .slice (some ⟨S, 0, none⟩) (dis (xs.take k)).length len ∧ St w wr d bm S lv (.slice ao len capx) len xs (dis (xs.take k)) (dis (xs.take k))) (fun _ i _ => len - (intOf i).toNat)
    case atStart => exact ⟨0, _, Nat.zero_le _, rfl, rfl, ST⟩
    case round =>
      clear ST w3
      obtain ⟨k, lv, hk, rfl, rfl, st⟩ := hrel
      by_cases hlt : k < len
      · obtain ⟨gx, rfl, hcx⟩ := row_at st.xs hlt
        have hdl := dis_len xs k
        have hds := dis_step xs k (by omega)
        have hs := hsx k
        obtain ⟨L, hL⟩ : ∃ L, L = dis (xs.take k) := ⟨_, rfl⟩
        obtain ⟨s, hs'⟩ : ∃ s, s = xs.getD k ByteArray.empty := ⟨_, rfl⟩
        rw [← hL] at st hdl hds ⊢
        rw [← hs'] at hcx hds hs
        have HDS := hide hds
        have SK := hide hs'
        clear hL hs' hds
        by_cases hin : s ∈ L
        · have C10 := hide (place10_old wr _ d bm lv L s st.dist hs hin)
          go_wp2_with (go_at_call 10; refine (unhide C10).mono ?_; rintro e w' ⟨rfl, rfl⟩)
          have hp := pos_lt hin
          go_loopw [7] (fun j wj => ∃ (m nq : Nat), j = .int .i64 m ∧ m ≤ pos s L ∧ wr.drewN nq = wj) (fun j _ => pos s L - (intOf j).toNat)
          case atStart => exact ⟨0, 0, rfl, Nat.zero_le _, rfl⟩
          case round =>
            rename_i wr0
            obtain ⟨m, nq, rfl, hmp, rfl⟩ := hrel
            obtain ⟨_, hgs, hcs⟩ := row_at st.seen (show m < L.length by omega)
            cases hgs
            have hmL : m < L.length := by omega
            by_cases hme : m = pos s L
            · subst hme
              rw [pos_at hin] at hcs
              go_wp2
              go_quiet (fail)
              go_wp2
              go_roundw
              case rel => exact ⟨k + 1, lv, by omega, by go_num, by rw [HDS.out, ins_old hin], by rw [HDS.out, ins_old hin]; exact st.drewN _⟩
              case measure => simp [intOf]; omega
            · have hne := str_ne (pos_before (show m < pos s L by omega))
              obtain ⟨t, ht⟩ : ∃ t, t = L.getD m ByteArray.empty := ⟨_, rfl⟩
              rw [← ht] at hne hcs
              clear ht
              go_wp2
              go_quiet (fail)
              go_wp2
              go_roundw
              case rel => exact ⟨m + 1, _, by go_num, by omega, rfl⟩
              case measure => simp [intOf]; omega
        · have C10 := hide (place10_new wr _ d bm lv L s st.dist hs hin (by omega) st.below.size)
          have hp := pos_out hin
          have HP := hide hp
          have ST := hide st
          clear st hp
          go_wp2_with (go_at_call 10; refine (unhide C10).mono ?_; rintro e w4 ⟨lv', rfl, hdist, hmoved⟩)
          have M := st_moved (unhide ST) hdist hmoved
          have hcx4 := hide (cell_moved (unhide ST) hmoved hlt)
          clear hdist hmoved ST hcx C10
          go_loopw [7] (fun j wj => ∃ (m nq : Nat), j = .int .i64 m ∧ m ≤ L.length ∧ w4.drewN nq = wj) (fun j _ => L.length - (intOf j).toNat)
          case atStart => exact ⟨0, 0, rfl, Nat.zero_le _, rfl⟩
          case round =>
            obtain ⟨m, nq, rfl, hmp, rfl⟩ := hrel
            have hcx : w4.cell? ⟨gx, k, none⟩ = some (.string s) := by rw [SK.out]; exact hcx4.out
            by_cases hme : m < L.length
            · obtain ⟨_, hgs, hcs⟩ := row_at M.seen hme
              cases hgs
              have hne := str_ne (pos_before (show m < pos s L by rw [HP.out]; exact hme))
              obtain ⟨t, ht⟩ : ∃ t, t = L.getD m ByteArray.empty := ⟨_, rfl⟩
              rw [← ht] at hne hcs
              clear ht
              go_wp2
              go_quiet (fail)
              go_wp2
              go_roundw
              case rel => exact ⟨m + 1, _, by go_num, by omega, rfl⟩
              case measure => simp [intOf]; omega
            · obtain rfl : m = L.length := by omega
              have hdec : decide (L.length < L.length) = false := by simp
              go_wp2
              go_quiet (fail)
              go_wp2_with (first
                | (at_builtin; refine wpList_append_fits _ rfl _ _ 22 rfl w.heap.size 9 i0 1 Try.underlying22 hi hz1 S _ _ _ rfl ((M.drewN _).seen.alloc _) _ 1 1 [.string s] rfl rfl (cell_one_new _ _ _) (by simp [Value.oneCell']) (by omega) ?_; intro w5 hown5 hgrow5))
              have ST5 := st_append (M.drewN _) hgrow5 hown5
              clear hown5 hgrow5
              go_roundw
              case rel => exact ⟨k + 1, lv', by omega, by go_num, by rw [HDS.out, ins_new hin]; simp, by rw [HDS.out, ins_new hin]; exact ST5⟩
              case measure => simp [intOf]; omega
      · obtain rfl : k = len := by omega
        obtain ⟨L, hL⟩ : ∃ L, L = dis (xs.take k) := ⟨_, rfl⟩
        have hdl := dis_len xs k
        rw [← hL] at st hdl ⊢
        clear hL
        have C11 := hide (list11 wr _ d bm lv L st.dist)
        obtain ⟨al, capl, rfl⟩ := ownsRow_form st.dist.row
        go_wp2_with (go_at_call 11; refine (unhide C11).mono ?_; rintro e w' ⟨rfl, rfl⟩)
        go_loopw [9] (fun j wj => ∃ (m nq : Nat), j = .int .i64 m ∧ m ≤ L.length ∧ wr.drewN nq = wj) (fun j _ => L.length - (intOf j).toNat)
        case atStart => exact ⟨0, 0, rfl, Nat.zero_le _, rfl⟩
        case round =>
          obtain ⟨m, nq, rfl, hmp, rfl⟩ := hrel
          by_cases hme : m < L.length
          · obtain ⟨_, hgs, hcs⟩ := row_at st.seen hme
            cases hgs
            obtain ⟨gl, rfl, hcl⟩ := row_at st.dist.row hme
            obtain ⟨t, ht⟩ : ∃ t, t = L.getD m ByteArray.empty := ⟨_, rfl⟩
            rw [← ht] at hcl hcs
            clear ht
            go_wp2
            go_quiet (fail)
            go_wp2
            go_roundw
            case rel => exact ⟨m + 1, _, by go_num, by omega, rfl⟩
            case measure => simp [intOf]; omega
          · go_wp2
            exact HR.out _ _ ⟨rfl, (st.drewN _).below⟩
end Go.Proofs.Qxb6600162a
