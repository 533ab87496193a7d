import Derived.Test.Qxb6600216aBase
namespace Go.Proofs.Qxb6600216a

/-! The plain side of the sort: by a key, then by the index. -/

def lei (f : Nat → Nat) (a b : Nat) : Bool := decide (f a < f b ∨ (f a = f b ∧ a ≤ b))
def lti (f : Nat → Nat) (a b : Nat) : Bool := decide (f a < f b ∨ (f a = f b ∧ a < b))

theorem lei_trans (f : Nat → Nat) (a b c : Nat) (h1 : lei f a b = true) (h2 : lei f b c = true) : lei f a c = true := by
  unfold lei at *
  simp only [decide_eq_true_eq] at *
  omega
theorem lei_total (f : Nat → Nat) (a b : Nat) : (lei f a b || lei f b a) = true := by
  unfold lei
  simp only [Bool.or_eq_true, decide_eq_true_eq]
  omega
theorem lei_anti (f : Nat → Nat) (a b : Nat) (h1 : lei f a b = true) (h2 : lei f b a = true) : a = b := by
  unfold lei at *
  simp only [decide_eq_true_eq] at *
  omega

/-- A weaker relation holds too. -/
theorem pw_weak {R S : Nat → Nat → Prop} (h : ∀ a b, R a b → S a b) : ∀ {L : List Nat}, L.Pairwise R → L.Pairwise S
  | [], _ => List.Pairwise.nil
  | _ :: _, hp => List.pairwise_cons.2 ⟨fun b hb => h _ b ((List.pairwise_cons.1 hp).1 b hb), pw_weak h (List.pairwise_cons.1 hp).2⟩

/-- The indices lo .. lo + len - 1, sorted. -/
def So (f : Nat → Nat) (lo len : Nat) : List Nat := (List.range' lo len).mergeSort (lei f)

theorem So_perm (f : Nat → Nat) (lo len : Nat) : (So f lo len).Perm (List.range' lo len) := List.mergeSort_perm _ _
theorem So_len (f : Nat → Nat) (lo len : Nat) : (So f lo len).length = len := by rw [(So_perm f lo len).length_eq, List.length_range']
theorem So_mem (f : Nat → Nat) (lo len a : Nat) : a ∈ So f lo len ↔ lo ≤ a ∧ a < lo + len := by rw [(So_perm f lo len).mem_iff, List.mem_range'_1]
theorem So_le (f : Nat → Nat) (lo len : Nat) : (So f lo len).Pairwise (fun a b => lei f a b = true) := List.pairwise_mergeSort (lei_trans f) (lei_total f) _
theorem So_nodup (f : Nat → Nat) (lo len : Nat) : (So f lo len).Nodup := (So_perm f lo len).nodup_iff.2 (List.nodup_range' ..)
theorem So_lt (f : Nat → Nat) (lo len : Nat) : (So f lo len).Pairwise (fun a b => lti f a b = true) := by
  refine pw_weak ?_ ((So_le f lo len).and (So_nodup f lo len))
  rintro a b ⟨h, hn⟩
  unfold lei at h
  unfold lti
  simp only [decide_eq_true_eq] at *
  have : a ≠ b := hn
  omega
/-- What is sorted and holds the same indices is it. -/
theorem So_uniq {f : Nat → Nat} {lo len : Nat} {L : List Nat} (hp : L.Perm (List.range' lo len)) (hs : L.Pairwise (fun a b => lei f a b = true)) : L = So f lo len :=
  List.Perm.eq_of_pairwise (fun a b _ _ => lei_anti f a b) hs (So_le f lo len) (hp.trans (So_perm f lo len).symm)
theorem So_one (f : Nat → Nat) (lo : Nat) : So f lo 1 = [lo] := by
  symm
  exact So_uniq (List.Perm.refl _) (by simp)

/-- The way in which the law's own merge chooses. -/
def lk (f : Nat → Nat) (a b : Nat) : Bool := !decide (f b < f a)

theorem merge_lk (f : Nat → Nat) : ∀ (n : Nat) (xs ys : List Nat), xs.length + ys.length ≤ n → (∀ x ∈ xs, ∀ y ∈ ys, x < y) → xs.merge ys (lk f) = xs.merge ys (lei f)
  | n, [], ys, _, _ => by rw [List.nil_merge, List.nil_merge]
  | n, x :: xs, [], _, _ => by rw [List.merge_right, List.merge_right]
  | 0, x :: xs, y :: ys, hn, h => by simp at hn
  | n + 1, x :: xs, y :: ys, hn, h => by
    have hxy := h x (by simp) y (by simp)
    have e : lk f x y = lei f x y := by
      unfold lk lei
      by_cases h1 : f y < f x
      · simp [h1]; omega
      · simp [h1]; omega
    simp only [List.length_cons] at hn
    rw [List.cons_merge_cons, List.cons_merge_cons, e]
    rw [merge_lk f n xs (y :: ys) (by simp only [List.length_cons]; omega) (fun a ha b hb => h a (by simp [ha]) b hb)]
    rw [merge_lk f n (x :: xs) ys (by simp only [List.length_cons]; omega) (fun a ha b hb => h a ha b (by simp [hb]))]

theorem So_merge (f : Nat → Nat) (lo a b : Nat) : (So f lo a).merge (So f (lo + a) b) (lk f) = So f lo (a + b) := by
  rw [merge_lk f _ _ _ (Nat.le_refl _) (fun x hx y hy => by rw [So_mem] at hx hy; omega)]
  refine So_uniq ?_ (List.pairwise_merge (lei_trans f) (lei_total f) _ _ (So_le _ _ _) (So_le _ _ _))
  refine (List.merge_perm_append _).trans ?_
  refine ((So_perm f lo a).append (So_perm f (lo + a) b)).trans ?_
  rw [List.range'_append_1]

/-- One step of the merge, at x of the left and y of the right. -/
structure Mg (f : Nat → Nat) (A B M : List Nat) (x y : Nat) : Prop where
  eq : (A.drop x).merge (B.drop y) (lk f) = M.drop (x + y)

theorem drop_at {L : List Nat} {k : Nat} (h : k < L.length) : L.drop k = L.getD k 0 :: L.drop (k + 1) := by
  rw [List.drop_eq_getElem_cons h]
  simp [List.getD, h]

theorem head_of {L M : List Nat} {k v : Nat} (h : v :: L = M.drop k) : M.getD k 0 = v ∧ L = M.drop (k + 1) := by
  have hk : k < M.length := by
    by_cases hk : k < M.length
    · exact hk
    · rw [List.drop_eq_nil_of_le (by omega)] at h; simp at h
  rw [drop_at hk] at h
  simp only [List.cons.injEq] at h
  exact ⟨h.1.symm, h.2⟩

theorem Mg.right {f : Nat → Nat} {A B M : List Nat} {x y : Nat} (h : Mg f A B M x y) (hx : x < A.length) (hy : y < B.length) (hl : f (B.getD y 0) < f (A.getD x 0)) : M.getD (x + y) 0 = B.getD y 0 ∧ Mg f A B M x (y + 1) := by
  have e := h.eq
  rw [drop_at hx, drop_at hy, List.cons_merge_cons, if_neg (by simp only [lk, Bool.not_eq_true', decide_eq_false_iff_not]; exact fun hn => hn hl), ← drop_at hx] at e
  obtain ⟨e1, e2⟩ := head_of e
  exact ⟨e1, ⟨e2⟩⟩
theorem Mg.left {f : Nat → Nat} {A B M : List Nat} {x y : Nat} (h : Mg f A B M x y) (hx : x < A.length) (hy : y < B.length) (hl : ¬ f (B.getD y 0) < f (A.getD x 0)) : M.getD (x + y) 0 = A.getD x 0 ∧ Mg f A B M (x + 1) y := by
  have e := h.eq
  rw [drop_at hx, drop_at hy, List.cons_merge_cons, if_pos (by simp only [lk, Bool.not_eq_true', decide_eq_false_iff_not]; exact hl), ← drop_at hy] at e
  obtain ⟨e1, e2⟩ := head_of e
  exact ⟨e1, ⟨by rw [e2]; congr 1; omega⟩⟩
theorem Mg.leftOnly {f : Nat → Nat} {A B M : List Nat} {x : Nat} (h : Mg f A B M x B.length) (hx : x < A.length) : M.getD (x + B.length) 0 = A.getD x 0 ∧ Mg f A B M (x + 1) B.length := by
  have e := h.eq
  rw [List.drop_length, List.merge_right, drop_at hx] at e
  obtain ⟨e1, e2⟩ := head_of e
  exact ⟨e1, ⟨by rw [List.drop_length, List.merge_right, e2]; congr 1; omega⟩⟩
theorem Mg.rightOnly {f : Nat → Nat} {A B M : List Nat} {y : Nat} (h : Mg f A B M A.length y) (hy : y < B.length) : M.getD (A.length + y) 0 = B.getD y 0 ∧ Mg f A B M A.length (y + 1) := by
  have e := h.eq
  rw [List.drop_length, List.nil_merge, drop_at hy] at e
  obtain ⟨e1, e2⟩ := head_of e
  exact ⟨e1, ⟨by rw [List.drop_length, List.nil_merge, e2]; rfl⟩⟩

/-! Places in a sorted list are counts. -/

theorem rank_at (f : Nat → Nat) : ∀ (L : List Nat), L.Pairwise (fun a b => lti f a b = true) → ∀ p, p < L.length → L.countP (fun j => lti f j (L.getD p 0)) = p
  | [], _, p, hp => by simp at hp
  | x :: L, h, p, hp => by
    rw [List.pairwise_cons] at h
    cases p with
    | zero =>
      rw [List.countP_eq_zero]
      intro j hj
      simp only [List.getD_cons_zero]
      rcases List.mem_cons.1 hj with rfl | hj
      · unfold lti; simp
      · have := h.1 j hj
        unfold lti at this ⊢
        simp only [decide_eq_true_eq] at this ⊢
        omega
    | succ p =>
      simp only [List.length_cons] at hp
      have hq : L.getD p 0 ∈ L := by simp [List.getD, show p < L.length by omega]
      simp only [List.getD_cons_succ]
      rw [List.countP_cons_of_pos (p := fun j => lti f j (L.getD p 0)) (h.1 _ hq), rank_at f L h.2 p (by omega)]

/-- The place of index q among n indices. -/
def Rk (f : Nat → Nat) (n q : Nat) : Nat := (List.range' 0 n).countP (fun j => lti f j q)

/-- The index at place p. -/
def od (f : Nat → Nat) (n p : Nat) : Nat := (So f 0 n).getD p 0

theorem od_lt (f : Nat → Nat) {n p : Nat} (hp : p < n) : od f n p < n := by
  have : od f n p ∈ So f 0 n := by simp [od, List.getD, So_len, hp]
  rw [So_mem] at this
  omega
theorem Rk_od (f : Nat → Nat) {n p : Nat} (hp : p < n) : Rk f n (od f n p) = p := by
  unfold Rk od
  rw [← (So_perm f 0 n).countP_eq]
  exact rank_at f _ (So_lt f 0 n) p (by rw [So_len]; exact hp)
theorem od_onto (f : Nat → Nat) {n q : Nat} (hq : q < n) : ∃ p, p < n ∧ od f n p = q := by
  have : q ∈ So f 0 n := by rw [So_mem]; omega
  obtain ⟨p, hp, e⟩ := List.getElem_of_mem this
  rw [So_len] at hp
  exact ⟨p, hp, by simp [od, List.getD, So_len, hp, e]⟩
theorem Rk_lt (f : Nat → Nat) {n q : Nat} (hq : q < n) : Rk f n q < n := by
  obtain ⟨p, hp, rfl⟩ := od_onto f hq
  rw [Rk_od f hp]
  exact hp
theorem od_Rk (f : Nat → Nat) {n q : Nat} (hq : q < n) : od f n (Rk f n q) = q := by
  obtain ⟨p, hp, rfl⟩ := od_onto f hq
  rw [Rk_od f hp]

/-! One pass of the radix sort. -/

def fd (K : Nat → Nat) (d : Nat) (j : Nat) : Nat := K j % 256 ^ d
def dg (K : Nat → Nat) (d : Nat) (j : Nat) : Nat := K j / 256 ^ d % 256

theorem dg_lt (K : Nat → Nat) (d j : Nat) : dg K d j < 256 := Nat.mod_lt _ (by decide)

theorem fd_succ (K : Nat → Nat) (d j : Nat) : fd K (d + 1) j = fd K d j + 256 ^ d * dg K d j := Nat.mod_pow_succ

theorem fd_cmp (K : Nat → Nat) (d a b : Nat) : fd K (d + 1) a < fd K (d + 1) b ↔ dg K d a < dg K d b ∨ (dg K d a = dg K d b ∧ fd K d a < fd K d b) := by
  have ha : fd K d a < 256 ^ d := Nat.mod_lt _ (Nat.pow_pos (by decide))
  have hb : fd K d b < 256 ^ d := Nat.mod_lt _ (Nat.pow_pos (by decide))
  rw [fd_succ, fd_succ]
  generalize 256 ^ d = P at *
  generalize fd K d a = x at *
  generalize fd K d b = y at *
  generalize dg K d a = u at *
  generalize dg K d b = v at *
  constructor
  · intro h
    rcases Nat.lt_trichotomy u v with huv | rfl | huv
    · exact .inl huv
    · exact .inr ⟨rfl, by omega⟩
    · exfalso
      have : P * (v + 1) ≤ P * u := Nat.mul_le_mul_left P huv
      rw [Nat.mul_add, Nat.mul_one] at this
      omega
  · rintro (huv | ⟨rfl, h⟩)
    · have : P * (u + 1) ≤ P * v := Nat.mul_le_mul_left P huv
      rw [Nat.mul_add, Nat.mul_one] at this
      omega
    · omega
theorem fd_eq (K : Nat → Nat) (d a b : Nat) : fd K (d + 1) a = fd K (d + 1) b ↔ dg K d a = dg K d b ∧ fd K d a = fd K d b := by
  have h1 := fd_cmp K d a b
  have h2 := fd_cmp K d b a
  constructor
  · intro h
    have n1 : ¬ fd K (d + 1) a < fd K (d + 1) b := by omega
    have n2 : ¬ fd K (d + 1) b < fd K (d + 1) a := by omega
    rw [h1] at n1
    rw [h2] at n2
    omega
  · rintro ⟨e1, e2⟩
    have n1 : ¬ fd K (d + 1) a < fd K (d + 1) b := by rw [h1]; omega
    have n2 : ¬ fd K (d + 1) b < fd K (d + 1) a := by rw [h2]; omega
    omega

theorem lti_succ (K : Nat → Nat) (d a b : Nat) : lti (fd K (d + 1)) a b = (decide (dg K d a < dg K d b) || (dg K d a == dg K d b && lti (fd K d) a b)) := by
  unfold lti
  rw [Bool.eq_iff_iff]
  simp only [decide_eq_true_eq, Bool.or_eq_true, Bool.and_eq_true, beq_iff_eq, fd_cmp, fd_eq]
  omega

/-- How many of the n have digit v; how many a smaller one; how many of the first m that are moved have v. -/
def cnt (K : Nat → Nat) (d m v : Nat) : Nat := (List.range' 0 m).countP (fun j => dg K d j == v)
def stv (K : Nat → Nat) (d n v : Nat) : Nat := (List.range' 0 n).countP (fun j => decide (dg K d j < v))
def cpv (K : Nat → Nat) (d n m v : Nat) : Nat := ((So (fd K d) 0 n).take m).countP (fun j => dg K d j == v)

theorem cnt_zero (K : Nat → Nat) (d v : Nat) : cnt K d 0 v = 0 := rfl
theorem cnt_succ (K : Nat → Nat) (d m v : Nat) : cnt K d (m + 1) v = cnt K d m v + if v = dg K d m then 1 else 0 := by
  unfold cnt
  rw [List.range'_1_concat, List.countP_append]
  congr 1
  by_cases h : v = dg K d m
  · simp [h]
  · have h' : ¬ dg K d m = v := fun e => h e.symm
    simp [h, h']
theorem cnt_le (K : Nat → Nat) (d m v : Nat) : cnt K d m v ≤ m := by
  have := List.countP_le_length (p := fun j => dg K d j == v) (l := List.range' 0 m)
  simpa [cnt] using this
theorem stv_zero (K : Nat → Nat) (d n : Nat) : stv K d n 0 = 0 := by
  unfold stv
  rw [List.countP_eq_zero]
  simp
theorem countP_or (p q r : Nat → Bool) (h : ∀ j, r j = (p j || q j)) (hd : ∀ j, p j = true → q j = false) : ∀ L : List Nat, L.countP r = L.countP p + L.countP q
  | [] => rfl
  | x :: L => by
    have ih := countP_or p q r h hd L
    simp only [List.countP_cons, ih, h x]
    have := hd x
    cases hp : p x <;> cases hq : q x <;> simp_all <;> omega
theorem stv_succ (K : Nat → Nat) (d n v : Nat) : stv K d n (v + 1) = stv K d n v + cnt K d n v := by
  refine countP_or _ _ _ (fun j => ?_) (fun j hj => ?_) _
  · rw [Bool.eq_iff_iff]
    simp only [decide_eq_true_eq, Bool.or_eq_true, beq_iff_eq]
    omega
  · simp only [decide_eq_true_eq] at hj
    rw [beq_eq_false_iff_ne]
    omega
theorem stv_le (K : Nat → Nat) (d n v : Nat) : stv K d n v ≤ n := by
  have := List.countP_le_length (p := fun j => decide (dg K d j < v)) (l := List.range' 0 n)
  simpa [stv] using this

theorem cpv_zero (K : Nat → Nat) (d n v : Nat) : cpv K d n 0 v = 0 := rfl
theorem cpv_succ (K : Nat → Nat) (d : Nat) {n m : Nat} (hm : m < n) (v : Nat) : cpv K d n (m + 1) v = cpv K d n m v + if v = dg K d (od (fd K d) n m) then 1 else 0 := by
  unfold cpv
  rw [List.take_add_one, List.countP_append]
  congr 1
  have e : (So (fd K d) 0 n)[m]? = some (od (fd K d) n m) := by
    simp [od, List.getD, So_len, hm]
  rw [e]
  by_cases h : v = dg K d (od (fd K d) n m)
  · simp [← h]
  · have h' : ¬ dg K d (od (fd K d) n m) = v := fun e => h e.symm
    simp [h, h']

/-- Where the m-th is put. -/
theorem place_next (K : Nat → Nat) (d : Nat) {n m : Nat} (hm : m < n) : stv K d n (dg K d (od (fd K d) n m)) + cpv K d n m (dg K d (od (fd K d) n m)) = Rk (fd K (d + 1)) n (od (fd K d) n m) := by
  obtain ⟨q, hq⟩ : ∃ q, q = od (fd K d) n m := ⟨_, rfl⟩
  have hlen : m < (So (fd K d) 0 n).length := by rw [So_len]; exact hm
  have hqe : (So (fd K d) 0 n).drop m = q :: (So (fd K d) 0 n).drop (m + 1) := by rw [drop_at hlen, hq]; rfl
  rw [← hq]
  unfold Rk
  rw [countP_or (fun j => decide (dg K d j < dg K d q)) (fun j => dg K d j == dg K d q && lti (fd K d) j q) _ (fun j => lti_succ K d j q) (fun j hj => by
    simp only [decide_eq_true_eq] at hj
    have : (dg K d j == dg K d q) = false := by rw [beq_eq_false_iff_ne]; omega
    rw [this]; rfl)]
  unfold stv
  congr 1
  rw [← (So_perm (fd K d) 0 n).countP_eq]
  unfold cpv
  have hpw := So_lt (fd K d) 0 n
  rw [← List.take_append_drop m (So (fd K d) 0 n), hqe, List.pairwise_append, List.pairwise_cons] at hpw
  obtain ⟨_, ⟨hb, _⟩, hc⟩ := hpw
  conv => rhs; rw [← List.take_append_drop m (So (fd K d) 0 n)]
  rw [hqe, List.countP_append]
  have z : (q :: (So (fd K d) 0 n).drop (m + 1)).countP (fun j => dg K d j == dg K d q && lti (fd K d) j q) = 0 := by
    rw [List.countP_eq_zero]
    intro j hj
    have : lti (fd K d) j q = false := by
      rcases List.mem_cons.1 hj with rfl | hj
      · unfold lti; simp
      · have := hb j hj
        unfold lti at this ⊢
        simp only [decide_eq_true_eq] at this
        simp only [decide_eq_false_iff_not]
        omega
    rw [this]
    simp
  rw [z, Nat.add_zero]
  refine List.countP_congr fun j hj => ?_
  have := hc j hj q (by simp)
  rw [this]
  simp

/-- A digit that all share. -/
theorem So_skip (K : Nat → Nat) (d n v : Nat) (h : cnt K d n v = n) : So (fd K (d + 1)) 0 n = So (fd K d) 0 n := by
  have hall : ∀ j, j < n → dg K d j = v := by
    have := List.countP_eq_length (p := fun j => dg K d j == v) (l := List.range' 0 n)
    unfold cnt at h
    rw [List.length_range'] at this
    intro j hj
    have := this.1 h j (by rw [List.mem_range'_1]; omega)
    simpa using this
  symm
  refine So_uniq (So_perm _ _ _) ?_
  refine (So_le (fd K d) 0 n).imp_of_mem ?_
  intro a b ha hb hab
  rw [So_mem] at ha hb
  have ea := hall a (by omega)
  have eb := hall b (by omega)
  unfold lei at hab ⊢
  simp only [decide_eq_true_eq] at hab ⊢
  rw [fd_cmp, fd_eq, ea, eb]
  omega

theorem od_skip (K : Nat → Nat) (d n v : Nat) (h : cnt K d n v = n) (p : Nat) : od (fd K (d + 1)) n p = od (fd K d) n p := by
  unfold od; rw [So_skip K d n v h]

theorem od_first (K : Nat → Nat) {n p : Nat} (hp : p < n) : od (fd K 0) n p = p := by
  have : List.range' 0 n = So (fd K 0) 0 n := by
    refine So_uniq (List.Perm.refl _) ?_
    have hz : ∀ j, fd K 0 j = 0 := fun j => by unfold fd; rw [Nat.pow_zero]; exact Nat.mod_one _
    have := List.pairwise_lt_range' (s := 0) (n := n) (step := 1)
    refine pw_weak ?_ this
    intro a b hab
    unfold lei
    rw [hz, hz, decide_eq_true_eq]
    exact .inr ⟨rfl, Nat.le_of_lt hab⟩
  unfold od
  rw [← this]
  simp [List.getD, hp]

theorem So_last {K : Nat → Nat} {n : Nat} (hK : ∀ j, j < n → K j < 256 ^ 9) : So (fd K 9) 0 n = So K 0 n := by
  symm
  refine (So_uniq (So_perm _ _ _) ?_)
  refine (So_le K 0 n).imp_of_mem ?_
  intro a b ha hb hab
  rw [So_mem] at ha hb
  have ea : fd K 9 a = K a := Nat.mod_eq_of_lt (hK a (by omega))
  have eb : fd K 9 b = K b := Nat.mod_eq_of_lt (hK b (by omega))
  unfold lei at hab ⊢
  rw [ea, eb]
  exact hab

/-! One pass of the merge sort. -/

/-- What stands at place p, where the blocks of width W are sorted. -/
def bk (f : Nat → Nat) (n W p : Nat) : Nat := (So f (p / W * W) (min W (n - p / W * W))).getD (p - p / W * W) 0

theorem bk_in (f : Nat → Nat) {n W lo p : Nat} (hlo : lo % W = 0) (h1 : lo ≤ p) (h2 : p < lo + W) : bk f n W p = (So f lo (min W (n - lo))).getD (p - lo) 0 := by
  have hW : 0 < W := by omega
  have hq : p / W * W = lo := by
    have e : lo = lo / W * W := by
      have := Nat.div_add_mod lo W
      rw [hlo, Nat.mul_comm] at this
      omega
    have : p / W = lo / W := by
      rw [Nat.div_eq_iff hW]
      rw [← e]
      omega
    rw [this]
    exact e.symm
  unfold bk
  rw [hq]
theorem bk_one (f : Nat → Nat) {n p : Nat} (hp : p < n) : bk f n 1 p = p := by
  rw [bk_in f (lo := p) (Nat.mod_one _) (Nat.le_refl _) (by omega), show min 1 (n - p) = 1 by omega, So_one]
  simp
theorem bk_all (f : Nat → Nat) {n W p : Nat} (hW : n ≤ W) (hp : p < n) : bk f n W p = od f n p := by
  rw [bk_in f (lo := 0) (Nat.zero_mod _) (Nat.zero_le _) (by omega)]
  unfold od
  rw [show min W (n - 0) = n by omega]
  rfl
theorem bk_lt (f : Nat → Nat) {n W p : Nat} (hW : 0 < W) (hp : p < n) : bk f n W p < n := by
  unfold bk
  have h1 := Nat.div_mul_le_self p W
  have h2 := Nat.div_add_mod p W
  have h3 := Nat.mod_lt p hW
  rw [Nat.mul_comm] at h2
  generalize p / W * W = lo at *
  have hl : p - lo < (So f lo (min W (n - lo))).length := by rw [So_len]; omega
  have : (So f lo (min W (n - lo))).getD (p - lo) 0 ∈ So f lo (min W (n - lo)) := by simp [List.getD, hl]
  rw [So_mem] at this
  omega
end Go.Proofs.Qxb6600216a
