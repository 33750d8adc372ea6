/-
  The lowest set bit and the binary indexed tree: the plain mathematics, no Go in sight. By an AI agent.
-/
namespace Go.Proofs.Qxb6001738a.Plain

/-- The lowest set bit, with fuel: how many halvings. -/
def lsbF : Nat → Nat → Nat
  | 0, _ => 1
  | f + 1, n => if n % 2 = 1 then 1 else 2 * lsbF f (n / 2)

/-- The lowest set bit of n (64 halvings serve every int). -/
def lsb (n : Nat) : Nat := lsbF 64 n

theorem lsbF_pos (f n : Nat) : 1 ≤ lsbF f n := by
  induction f generalizing n with
  | zero => simp [lsbF]
  | succ f ih => simp only [lsbF]; split
                 · omega
                 · have := ih (n / 2); omega

theorem lsbF_le (f n : Nat) (h : 1 ≤ n) (hf : n < 2 ^ f) : lsbF f n ≤ n := by
  induction f generalizing n with
  | zero => simp at hf; omega
  | succ f ih =>
    simp only [lsbF]; split
    · omega
    · have := ih (n / 2) (by omega) (by rw [Nat.pow_succ] at hf; omega); omega

/-- Between q and q + lsb q every j has its low end at q or above. -/
theorem lsbF_gap (f q j : Nat) (h : 1 ≤ q) (hj : j < 2 ^ f) (h1 : q < j) (h2 : j < q + lsbF f q) : q + lsbF f j ≤ j := by
  induction f generalizing q j with
  | zero => simp at hj; omega
  | succ f ih =>
    simp only [lsbF] at h2 ⊢
    rw [Nat.pow_succ] at hj
    by_cases a : q % 2 = 1
    · rw [if_pos a] at h2; omega
    · rw [if_neg a] at h2
      by_cases b : j % 2 = 1
      · rw [if_pos b]; omega
      · rw [if_neg b]
        have := ih (q / 2) (j / 2) (by omega) (by omega) (by omega) (by omega)
        omega

/-- The next node's low bit is at least twice as large. -/
theorem lsbF_next (f q : Nat) (h : 1 ≤ q) (hq : q + lsbF f q < 2 ^ f) : 2 * lsbF f q ≤ lsbF f (q + lsbF f q) := by
  induction f generalizing q with
  | zero => simp at hq; omega
  | succ f ih =>
    simp only [lsbF] at hq ⊢
    rw [Nat.pow_succ] at hq
    by_cases a : q % 2 = 1
    · simp only [if_pos a] at hq ⊢
      rw [if_neg (by omega)]
      have := lsbF_pos f ((q + 1) / 2)
      omega
    · simp only [if_neg a] at hq ⊢
      rw [if_neg (by omega)]
      have e : (q + 2 * lsbF f (q / 2)) / 2 = q / 2 + lsbF f (q / 2) := by omega
      rw [e]
      have := ih (q / 2) (by omega) (by omega)
      omega

theorem lsb_pos (n : Nat) : 1 ≤ lsb n := lsbF_pos 64 n
theorem lsb_le (n : Nat) (h : 1 ≤ n) (hf : n ≤ 1048576) : lsb n ≤ n := lsbF_le 64 n h (by omega)
theorem lsb_gap (q j : Nat) (h : 1 ≤ q) (hj : j ≤ 1048576) (h1 : q < j) (h2 : j < q + lsb q) : q + lsb j ≤ j := lsbF_gap 64 q j h (by omega) h1 h2
theorem lsb_next (q : Nat) (h : 1 ≤ q) (hq : q ≤ 1048576) : 2 * lsb q ≤ lsb (q + lsb q) := lsbF_next 64 q h (by have := lsb_le q h hq; unfold lsb at this; omega)

/-- Complement: no bit is shared. -/
theorem land_compl (f x : Nat) (h : x < 2 ^ f) : x &&& (2 ^ f - 1 - x) = 0 := by
  induction f generalizing x with
  | zero => simp at h; subst h; simp
  | succ f ih =>
    rw [Nat.pow_succ] at h ⊢
    have e := ih (x / 2) (by omega)
    have hd : (x &&& (2 ^ f * 2 - 1 - x)) / 2 = 0 := by
      rw [Nat.and_div_two]
      have : (2 ^ f * 2 - 1 - x) / 2 = 2 ^ f - 1 - x / 2 := by omega
      rw [this, e]
    have hm : (x &&& (2 ^ f * 2 - 1 - x)) % 2 = 0 := by
      have k := @Nat.and_mod_two_eq_one x (2 ^ f * 2 - 1 - x)
      have : ¬ (x &&& (2 ^ f * 2 - 1 - x)) % 2 = 1 := by rw [k]; omega
      omega
    omega

/-- n & -n is the lowest set bit. -/
theorem land_neg (f n : Nat) (h : 1 ≤ n) (hf : n < 2 ^ f) : n &&& (2 ^ f - n) = lsbF f n := by
  induction f generalizing n with
  | zero => simp at hf; omega
  | succ f ih =>
    rw [Nat.pow_succ] at hf ⊢
    simp only [lsbF]
    have k := @Nat.and_mod_two_eq_one n (2 ^ f * 2 - n)
    by_cases a : n % 2 = 1
    · rw [if_pos a]
      have hd : (n &&& (2 ^ f * 2 - n)) / 2 = 0 := by
        rw [Nat.and_div_two]
        have : (2 ^ f * 2 - n) / 2 = 2 ^ f - 1 - n / 2 := by omega
        rw [this, land_compl f (n / 2) (by omega)]
      have : (n &&& (2 ^ f * 2 - n)) % 2 = 1 := k.2 (by omega)
      omega
    · rw [if_neg a]
      have hd : (n &&& (2 ^ f * 2 - n)) / 2 = lsbF f (n / 2) := by
        rw [Nat.and_div_two]
        have : (2 ^ f * 2 - n) / 2 = 2 ^ f - n / 2 := by omega
        rw [this]
        exact ih (n / 2) (by omega) (by omega)
      have : ¬ (n &&& (2 ^ f * 2 - n)) % 2 = 1 := by rw [k]; omega
      omega


/-! ### Running sums -/

/-- The sum of the first i numbers. -/
def pre (c : List Int) (i : Nat) : Int := (c.take i).sum

theorem pre_zero (c : List Int) : pre c 0 = 0 := by simp [pre]

theorem pre_succ (c : List Int) (i : Nat) : pre c (i + 1) = pre c i + c.getD i 0 := by
  unfold pre
  by_cases h : i < c.length
  · rw [List.take_succ_eq_append_getElem h, List.sum_append]; simp [h]
  · rw [List.take_of_length_le (by omega), List.take_of_length_le (by omega)]; simp [show c.length ≤ i by omega]

theorem getD_nonneg {c : List Int} (h : ∀ x ∈ c, 0 ≤ x) (i : Nat) : 0 ≤ c.getD i 0 := by
  by_cases hi : i < c.length
  · simp [hi]; exact h _ (List.getElem_mem hi)
  · simp [show c.length ≤ i by omega]

theorem pre_mono {c : List Int} (h : ∀ x ∈ c, 0 ≤ x) (i d : Nat) : pre c i ≤ pre c (i + d) := by
  induction d with
  | zero => simp
  | succ d ih =>
    have e : i + (d + 1) = (i + d) + 1 := by omega
    have := getD_nonneg h (i + d)
    rw [e, pre_succ]; omega

theorem pre_le {c : List Int} (h : ∀ x ∈ c, 0 ≤ x) {i j : Nat} (hij : i ≤ j) : pre c i ≤ pre c j := by
  have := pre_mono h i (j - i)
  rwa [show i + (j - i) = j by omega] at this

theorem getD_set (c : List Int) (p i : Nat) (v : Int) (hp : p < c.length) : (c.set p v).getD i 0 = if p = i then v else c.getD i 0 := by
  simp only [List.getD_eq_getElem?_getD, List.getElem?_set]
  by_cases h : p = i
  · subst h; simp [hp]
  · simp [h]

/-- One more at place p: the sums from p + 1 on grow by one. -/
theorem pre_bump (c : List Int) (p : Nat) (hp : p < c.length) (i : Nat) : pre (c.set p (c.getD p 0 + 1)) i = pre c i + if p + 1 ≤ i then 1 else 0 := by
  induction i with
  | zero => simp [pre_zero]
  | succ i ih =>
    rw [pre_succ, pre_succ, ih, getD_set _ _ _ _ hp]
    by_cases h : p = i
    · subst h; simp; omega
    · simp only [if_neg h]
      by_cases g : p + 1 ≤ i
      · rw [if_pos g, if_pos (by omega)]; omega
      · rw [if_neg g, if_neg (by omega)]; omega

/-! ### The tree -/

/-- The tree t tells the counts c: node j holds the sum of the places from j less its low bit up to j. -/
def Fen (c t : List Int) : Prop := t.length = c.length ∧ ∀ j, 1 ≤ j → j ≤ c.length → t.getD (j - 1) 0 = pre c j - pre c (j - lsb j)

/-- Where an add at place p (counted from one) stands when it comes to node q: every node ahead of q has been dealt with, no other has. -/
def Adding (p q : Nat) (t0 t : List Int) : Prop :=
  t.length = t0.length ∧ 1 ≤ p ∧ p ≤ q ∧ q < p + lsb q ∧
  (∀ j, 1 ≤ j → j < q → j ≤ t0.length → t.getD (j - 1) 0 = t0.getD (j - 1) 0 + if j < p + lsb j ∧ p ≤ j then 1 else 0) ∧
  (∀ j, q ≤ j → j ≤ t0.length → t.getD (j - 1) 0 = t0.getD (j - 1) 0)

theorem Adding.start (p : Nat) (t0 : List Int) (h : 1 ≤ p) : Adding p p t0 t0 :=
  ⟨rfl, h, Nat.le_refl _, by have := lsb_pos p; omega, fun j _ h2 _ => by rw [if_neg (by omega)]; omega, fun _ _ _ => rfl⟩

theorem Adding.step {p q : Nat} {t0 t : List Int} (h : Adding p q t0 t) (hq : q ≤ t0.length) (hn : t0.length ≤ 65536) :
    Adding p (q + lsb q) t0 (t.set (q - 1) (t.getD (q - 1) 0 + 1)) := by
  obtain ⟨hl, h1, h2, h3, h4, h5⟩ := h
  have q1 : 1 ≤ q := by omega
  have lp := lsb_pos q
  have ln := lsb_next q q1 (by omega)
  have ll := lsb_le q q1 (by omega)
  refine ⟨by simp [hl], h1, by omega, by omega, ?_, ?_⟩
  · intro j j1 j2 j3
    rw [getD_set _ _ _ _ (by omega)]
    by_cases e : q - 1 = j - 1
    · have : j = q := by omega
      subst this
      rw [if_pos rfl, if_pos (by omega), h5 j (by omega) j3]
    · rw [if_neg e]
      by_cases g : j < q
      · exact h4 j j1 g j3
      · have hg := lsb_gap q j q1 (by omega) (by omega) j2
        rw [h5 j (by omega) j3, if_neg (by omega)]; omega
  · intro j j1 j2
    rw [getD_set _ _ _ _ (by omega), if_neg (by omega)]
    exact h5 j (by omega) j2

theorem Adding.done {p q : Nat} {c t0 t : List Int} (h : Adding p q t0 t) (hq : t0.length < q) (hc : Fen c t0) (hp : p ≤ c.length) (hn : c.length ≤ 65536) :
    Fen (c.set (p - 1) (c.getD (p - 1) 0 + 1)) t := by
  obtain ⟨hl, h1, h2, h3, h4, h5⟩ := h
  obtain ⟨f1, f2⟩ := hc
  refine ⟨by simp; omega, ?_⟩
  intro j j1 j2
  rw [List.length_set] at j2
  have ll := lsb_le j j1 (by omega)
  rw [h4 j j1 (by omega) (by omega), f2 j j1 j2, pre_bump _ _ (by omega), pre_bump _ _ (by omega)]
  have e1 : p - 1 + 1 = p := by omega
  rw [e1]
  by_cases a : p ≤ j
  · rw [if_pos a]
    by_cases b : p ≤ j - lsb j
    · rw [if_pos b, if_neg (by omega)]; omega
    · rw [if_neg b, if_pos (by omega)]; omega
  · rw [if_neg a, if_neg (by omega), if_neg (by omega)]; omega

/-- The state behind k adds: counts c, tree t, n places. -/
def Told (n k : Nat) (c t : List Int) : Prop := c.length = n ∧ (∀ x ∈ c, 0 ≤ x) ∧ c.sum ≤ k ∧ Fen c t

theorem pre_all (c : List Int) (i : Nat) (h : c.length ≤ i) : pre c i = c.sum := by unfold pre; rw [List.take_of_length_le h]

theorem Told.pre_bd {n k : Nat} {c t : List Int} (h : Told n k c t) (i : Nat) : 0 ≤ pre c i ∧ pre c i ≤ k := by
  obtain ⟨h1, h2, h3, h4⟩ := h
  have a := pre_le h2 (Nat.zero_le i)
  rw [pre_zero] at a
  have b := pre_le h2 (show i ≤ i + c.length by omega)
  rw [pre_all c (i + c.length) (by omega)] at b
  omega

theorem Told.node_bd {n k : Nat} {c t : List Int} (h : Told n k c t) (j : Nat) (j1 : 1 ≤ j) (j2 : j ≤ n) : 0 ≤ t.getD (j - 1) 0 ∧ t.getD (j - 1) 0 ≤ k := by
  have a := h.pre_bd j
  have b := h.pre_bd (j - lsb j)
  obtain ⟨h1, h2, h3, h4⟩ := h
  have e := h4.2 j j1 (by omega)
  have m := pre_le h2 (Nat.sub_le j (lsb j))
  omega

theorem Told.count_bd {n k : Nat} {c t : List Int} (h : Told n k c t) (i : Nat) : 0 ≤ c.getD i 0 ∧ c.getD i 0 ≤ k := by
  have a := h.pre_bd i
  have b := h.pre_bd (i + 1)
  have := getD_nonneg h.2.1 i
  rw [pre_succ] at b
  omega

theorem sum_bump (c : List Int) (p : Nat) (hp : p < c.length) : (c.set p (c.getD p 0 + 1)).sum = c.sum + 1 := by
  have := pre_bump c p hp c.length
  rw [pre_all _ _ (by simp), pre_all _ _ (Nat.le_refl _), if_pos (by omega)] at this
  exact this

theorem Told.zero (n : Nat) : Told n 0 (List.replicate n 0) (List.replicate n 0) := by
  have hs : ∀ i, pre (List.replicate n (0 : Int)) i = 0 := by
    intro i; unfold pre; rw [List.take_replicate]; simp
  refine ⟨by simp, by intro x hx; have := List.eq_of_mem_replicate hx; omega, by simp, by simp, ?_⟩
  intro j j1 j2
  rw [hs, hs]
  simp at j2
  simp [show j - 1 < n by omega]

theorem Told.weak {n k : Nat} {c t : List Int} (h : Told n k c t) : Told n (k + 1) c t := ⟨h.1, h.2.1, by have := h.2.2.1; omega, h.2.2.2⟩

/-- One add at place p (counted from nought) and the count raised there. -/
theorem Told.add {n k p q : Nat} {c t t' : List Int} (h : Told n k c t) (hp : p < n) (hn : n ≤ 65536) (ha : Adding (p + 1) q t t') (hq : n < q) : Told n (k + 1) (c.set p (c.getD p 0 + 1)) t' := by
  have cb := h.count_bd p
  obtain ⟨h1, h2, h3, h4⟩ := h
  refine ⟨by simp [h1], ?_, ?_, ?_⟩
  · intro x hx
    rcases List.mem_or_eq_of_mem_set hx with m | rfl
    · exact h2 x m
    · omega
  · rw [sum_bump _ _ (by omega)]; omega
  · have := ha.done (c := c) (by have := h4.1; omega) h4 (by omega) (by omega)
    simpa using this

/-- A read of node i: the sum up to i less the sum up to i with its low bit struck. -/
theorem Told.node {n k : Nat} {c t : List Int} (h : Told n k c t) (i : Nat) (i1 : 1 ≤ i) (i2 : i ≤ n) : t.getD (i - 1) 0 + pre c (i - lsb i) = pre c i := by
  have e := h.2.2.2.2 i i1 (by have := h.1; omega)
  omega

end Go.Proofs.Qxb6001738a.Plain
