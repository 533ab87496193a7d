import Derived.Test.Qxb6600216aMrg
namespace Go.Proofs.Qxb6600216a
open Go.RowKit
set_option linter.unusedVariables false

/-- What holds while two blocks are merged. -/
structure Ms (w6 wj : World) (n : Nat) (F : Flds) (ob tb W lo mid hi i j k : Nat) : Prop where
  loi : lo ≤ i
  imid : i ≤ mid
  midj : mid ≤ j
  jhi : j ≤ hi
  kk : k = i + (j - mid)
  lon : lo < n
  em : mid = lo + min W (n - lo)
  eh : hi = mid + min W (n - mid)
  lm : lo % (2 * W) = 0
  os : w6.heap.size + 1 < ob
  ts : w6.heap.size + 1 < tb
  ot : ob ≠ tb
  mg : Mg F.K (So F.K lo (mid - lo)) (So F.K mid (hi - mid)) (So F.K lo (hi - lo)) (i - lo) (j - mid)
  st : Sst w6 wj n F (fun _ => True)
  o1 : Ord wj ob n (fun _ => True) (bk F.K n W)
  o2 : Ord wj tb n (fun p => p < k) (bk F.K n (2 * W))

section
variable {w6 wj : World} {n : Nat} {F : Flds} {ob tb W lo mid hi i j k : Nat}

theorem Ms.hin (h : Ms w6 wj n F ob tb W lo mid hi i j k) : mid ≤ n ∧ mid ≤ hi ∧ hi ≤ n ∧ k ≤ hi := by
  have h1 := h.em
  have h2 := h.eh
  have h3 := h.lon
  have h4 := h.kk
  have h5 := h.loi
  have h6 := h.imid
  have h7 := h.midj
  have h8 := h.jhi
  omega

theorem Ms.drewN (h : Ms w6 wj n F ob tb W lo mid hi i j k) (q : Nat) : Ms w6 (wj.drewN q) n F ob tb W lo mid hi i j k :=
  have g' : wj.grownBy (wj.drewN q) none := grown_drew (World.grownBy.refl wj none) q
  ⟨h.loi, h.imid, h.midj, h.jhi, h.kk, h.lon, h.em, h.eh, h.lm, h.os, h.ts, h.ot, h.mg, h.st.more g', h.o1.more g', h.o2.more g'⟩

theorem Ms.more {w' : World} (h : Ms w6 wj n F ob tb W lo mid hi i j k) (g' : wj.grownBy w' none) : Ms w6 w' n F ob tb W lo mid hi i j k :=
  ⟨h.loi, h.imid, h.midj, h.jhi, h.kk, h.lon, h.em, h.eh, h.lm, h.os, h.ts, h.ot, h.mg, h.st.more g', h.o1.more g', h.o2.more g'⟩

theorem Ms.left (h : Ms w6 wj n F ob tb W lo mid hi i j k) (hi0 : i < mid) : (So F.K lo (mid - lo)).getD (i - lo) 0 = bk F.K n W i := by
  have h1 := h.em
  have h2 := h.loi
  have := mrg_left F.K (n := n) (W := W) (lo := lo) (x := i - lo) (mod_half h.lm) (by omega)
  rw [show min W (n - lo) = mid - lo by omega, show lo + (i - lo) = i by omega] at this
  exact this
theorem Ms.right (h : Ms w6 wj n F ob tb W lo mid hi i j k) (hj0 : j < hi) : (So F.K mid (hi - mid)).getD (j - mid) 0 = bk F.K n W j := by
  have h1 := h.em
  have h2 := h.eh
  have h3 := h.midj
  have := mrg_right F.K (n := n) (W := W) (lo := lo) (a := mid - lo) (y := j - mid) (mod_half h.lm) (by omega) (by rw [show lo + (mid - lo) = mid by omega]; omega)
  rw [show lo + (mid - lo) = mid by omega, show min W (n - mid) = hi - mid by omega, show mid + (j - mid) = j by omega] at this
  exact this
theorem Ms.both (h : Ms w6 wj n F ob tb W lo mid hi i j k) (hk : k < hi) : (So F.K lo (hi - lo)).getD (i - lo + (j - mid)) 0 = bk F.K n (2 * W) k := by
  have h1 := h.em
  have h2 := h.eh
  have h3 := h.kk
  have h4 := h.loi
  have h5 := h.midj
  have h6 := h.imid
  have h7 := h.lon
  have := mrg_both F.K (n := n) (W := W) (lo := lo) (a := mid - lo) (b := hi - mid) (z := k - lo) h.lm (by omega) (by rw [show lo + (mid - lo) = mid by omega]; omega) (by omega)
  rw [show mid - lo + (hi - mid) = hi - lo by omega, show lo + (k - lo) = k by omega] at this
  rw [show i - lo + (j - mid) = k - lo by omega]
  exact this

theorem Ms.takeR (h : Ms w6 wj n F ob tb W lo mid hi i j k) (hi0 : i < mid) (hj0 : j < hi) (hl : F.K (bk F.K n W j) < F.K (bk F.K n W i)) :
    Ms w6 (wj.setCell ⟨tb, k, none⟩ (.int .i64 (bk F.K n W j : Nat))) n F ob tb W lo mid hi i (j + 1) (k + 1) := by
  obtain ⟨e1, e2, e3, e4⟩ := h.hin
  have c1 := h.kk
  have c2 := h.midj
  have c3 := h.loi
  have hA : i - lo < (So F.K lo (mid - lo)).length := by rw [So_len]; omega
  have hB : j - mid < (So F.K mid (hi - mid)).length := by rw [So_len]; omega
  rw [← h.right hj0, ← h.left hi0] at hl
  obtain ⟨e, m⟩ := h.mg.right hA hB hl
  rw [h.both (by omega), h.right hj0] at e
  exact ⟨h.loi, h.imid, by omega, by omega, by omega, h.lon, h.em, h.eh, h.lm, h.os, h.ts, h.ot, by rw [show j + 1 - mid = j - mid + 1 by omega]; exact m, h.st.set h.ts _, h.o1.setOther h.ot _, h.o2.put _ (by rw [e])⟩
theorem Ms.takeL (h : Ms w6 wj n F ob tb W lo mid hi i j k) (hi0 : i < mid) (hl : j < hi → ¬ F.K (bk F.K n W j) < F.K (bk F.K n W i)) :
    Ms w6 (wj.setCell ⟨tb, k, none⟩ (.int .i64 (bk F.K n W i : Nat))) n F ob tb W lo mid hi (i + 1) j (k + 1) := by
  obtain ⟨e1, e2, e3, e4⟩ := h.hin
  have c1 := h.kk
  have c2 := h.midj
  have c3 := h.loi
  have c4 := h.jhi
  have hA : i - lo < (So F.K lo (mid - lo)).length := by rw [So_len]; omega
  by_cases hj0 : j < hi
  · have hB : j - mid < (So F.K mid (hi - mid)).length := by rw [So_len]; omega
    have hl' := hl hj0
    rw [← h.right hj0, ← h.left hi0] at hl'
    obtain ⟨e, m⟩ := h.mg.left hA hB hl'
    rw [h.both (by omega), h.left hi0] at e
    exact ⟨by omega, by omega, h.midj, h.jhi, by omega, h.lon, h.em, h.eh, h.lm, h.os, h.ts, h.ot, by rw [show i + 1 - lo = i - lo + 1 by omega]; exact m, h.st.set h.ts _, h.o1.setOther h.ot _, h.o2.put _ (by rw [e])⟩
  · have hjl : j - mid = (So F.K mid (hi - mid)).length := by rw [So_len]; omega
    have mg := h.mg
    have hb := h.both (by omega)
    rw [hjl] at mg hb
    obtain ⟨e, m⟩ := mg.leftOnly hA
    rw [hb, h.left hi0] at e
    rw [← hjl] at m
    exact ⟨by omega, by omega, h.midj, h.jhi, by omega, h.lon, h.em, h.eh, h.lm, h.os, h.ts, h.ot, by rw [show i + 1 - lo = i - lo + 1 by omega]; exact m, h.st.set h.ts _, h.o1.setOther h.ot _, h.o2.put _ (by rw [e])⟩
theorem Ms.takeR' (h : Ms w6 wj n F ob tb W lo mid hi i j k) (hi0 : i = mid) (hj0 : j < hi) :
    Ms w6 (wj.setCell ⟨tb, k, none⟩ (.int .i64 (bk F.K n W j : Nat))) n F ob tb W lo mid hi i (j + 1) (k + 1) := by
  obtain ⟨e1, e2, e3, e4⟩ := h.hin
  have c1 := h.kk
  have c2 := h.midj
  have c3 := h.loi
  have hB : j - mid < (So F.K mid (hi - mid)).length := by rw [So_len]; omega
  have hil : i - lo = (So F.K lo (mid - lo)).length := by rw [So_len]; omega
  have mg := h.mg
  have hb := h.both (by omega)
  rw [hil] at mg hb
  obtain ⟨e, m⟩ := mg.rightOnly hB
  rw [hb, h.right hj0] at e
  rw [← hil] at m
  exact ⟨h.loi, h.imid, by omega, by omega, by omega, h.lon, h.em, h.eh, h.lm, h.os, h.ts, h.ot, by rw [show j + 1 - mid = j - mid + 1 by omega]; exact m, h.st.set h.ts _, h.o1.setOther h.ot _, h.o2.put _ (by rw [e])⟩

theorem Ms.fin (h : Ms w6 wj n F ob tb W lo mid hi mid hi k) : Ord wj tb n (fun p => p < lo + 2 * W) (bk F.K n (2 * W)) := by
  refine h.o2.weak fun p hp hs => ⟨?_, rfl⟩
  have h0 : p < lo + 2 * W := hs
  obtain ⟨e1, e2, e3, e4⟩ := h.hin
  have h1 := h.em
  have h2 := h.eh
  have h3 := h.kk
  have h4 := h.lon
  show p < k
  omega
end

theorem ms_start {w6 wj : World} {n : Nat} {F : Flds} {ob tb W lo mid hi : Nat} (lon : lo < n) (em : mid = lo + min W (n - lo)) (eh : hi = mid + min W (n - mid)) (lm : lo % (2 * W) = 0) (os : w6.heap.size + 1 < ob) (ts : w6.heap.size + 1 < tb) (ot : ob ≠ tb)
    (st : Sst w6 wj n F (fun _ => True)) (o1 : Ord wj ob n (fun _ => True) (bk F.K n W)) (o2 : Ord wj tb n (fun p => p < lo) (bk F.K n (2 * W))) : Ms w6 wj n F ob tb W lo mid hi lo mid lo := by
  have mg := mrg_start F.K lo (mid - lo) (hi - mid)
  rw [show lo + (mid - lo) = mid by omega, show mid - lo + (hi - mid) = hi - lo by omega] at mg
  exact ⟨Nat.le_refl _, by omega, Nat.le_refl _, by omega, by omega, lon, em, eh, lm, os, ts, ot, by rw [Nat.sub_self, Nat.sub_self]; exact mg, st, o1, o2⟩
end Go.Proofs.Qxb6600216a
