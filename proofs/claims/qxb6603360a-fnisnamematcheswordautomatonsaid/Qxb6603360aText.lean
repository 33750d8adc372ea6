/-
  The plain mathematics of digits and names: bytes, no Go in sight. By an AI agent.
-/
namespace Go.Proofs.Qxb6603360a.Plain

/-- A digit. -/
def dig (c : UInt8) : Bool := decide (48 ≤ (c.toNat : Int)) && decide ((c.toNat : Int) ≤ 57)
/-- A lowercase letter. -/
def low (c : UInt8) : Bool := decide (97 ≤ (c.toNat : Int)) && decide ((c.toNat : Int) ≤ 122)

theorem dig_yes {c : UInt8} (h1 : 48 ≤ (c.toNat : Int)) (h2 : (c.toNat : Int) ≤ 57) : dig c = true := by simp [dig, h1, h2]
theorem dig_no1 {c : UInt8} (h : (c.toNat : Int) < 48) : dig c = false := by
  have : ¬ (48 ≤ (c.toNat : Int)) := by omega
  simp [dig, this]
theorem dig_no2 {c : UInt8} (h : 57 < (c.toNat : Int)) : dig c = false := by
  have : ¬ ((c.toNat : Int) ≤ 57) := by omega
  simp [dig, this]
theorem dig_out {c : UInt8} (h : dig c = true) : 48 ≤ (c.toNat : Int) ∧ (c.toNat : Int) ≤ 57 := by simpa [dig] using h
theorem dig_cases (c : UInt8) : (48 ≤ (c.toNat : Int) ∧ (c.toNat : Int) ≤ 57 ∧ dig c = true) ∨ ((c.toNat : Int) < 48 ∧ dig c = false) ∨ (57 < (c.toNat : Int) ∧ dig c = false) := by
  by_cases a : (c.toNat : Int) < 48
  · exact .inr (.inl ⟨a, dig_no1 a⟩)
  · by_cases b : 57 < (c.toNat : Int)
    · exact .inr (.inr ⟨b, dig_no2 b⟩)
    · exact .inl ⟨by omega, by omega, dig_yes (by omega) (by omega)⟩

/-- Every byte ahead of place k is a digit. -/
def AllDig (s : ByteArray) (k : Nat) : Prop := ∀ i, (h : i < s.size) → i < k → dig s[i] = true

theorem AllDig.zero (s : ByteArray) : AllDig s 0 := fun _ _ h => absurd h (Nat.not_lt_zero _)
theorem AllDig.succ {s : ByteArray} {k : Nat} (h : AllDig s k) (hk : k < s.size) (hd : dig s[k] = true) : AllDig s (k + 1) := by
  intro i hi hik
  by_cases e : i = k
  · subst e; exact hd
  · exact h i hi (by omega)

/-- A text of digits: not empty, digits alone. -/
def digs (s : ByteArray) : Bool := !(s.data.toList.isEmpty) && s.data.toList.all dig

theorem digs_iff (s : ByteArray) : digs s = true ↔ 0 < s.size ∧ AllDig s s.size := by
  have hl : s.data.toList.length = s.size := by simp
  unfold digs AllDig
  rw [Bool.and_eq_true, List.all_eq_true]
  constructor
  · rintro ⟨a, b⟩
    refine ⟨?_, fun i hi _ => b _ ?_⟩
    · rw [← hl]
      cases h : s.data.toList with
      | nil => simp [h] at a
      | cons x xs => simp
    · show s.data[i] ∈ _
      simp
  · rintro ⟨a, b⟩
    refine ⟨?_, ?_⟩
    · cases h : s.data.toList with
      | nil => rw [h] at hl; simp at hl; omega
      | cons x xs => simp
    · intro x hx
      obtain ⟨i, hi, rfl⟩ := List.getElem_of_mem hx
      have h : dig s.data[i] = true := b i (by omega) (by omega)
      simpa using h

theorem digs_good {s : ByteArray} (h : 0 < s.size) (ha : AllDig s s.size) : digs s = true := (digs_iff s).2 ⟨h, ha⟩
theorem digs_bad {s : ByteArray} {k : Nat} (hk : k < s.size) (hd : dig s[k] = false) : digs s = false := by
  cases h : digs s with
  | false => rfl
  | true => have := (digs_iff s).1 h |>.2 k hk hk; rw [this] at hd; cases hd
theorem digs_none {s : ByteArray} (h : s.size = 0) : digs s = false := by
  cases h' : digs s with
  | false => rfl
  | true => have := (digs_iff s).1 h' |>.1; omega

theorem AllDig.not {s : ByteArray} {k : Nat} (hk : k < s.size) (hd : dig s[k] = false) : ¬ AllDig s (k + 1) := by
  intro h
  have := h k hk (Nat.lt_succ_self k)
  rw [this] at hd; cases hd

/-! ### The two alphabets -/

/-- The ten digits. -/
def digAlpha : ByteArray := ⟨#[48, 49, 50, 51, 52, 53, 54, 55, 56, 57]⟩
/-- The letters and the digits. -/
def nameAlpha : ByteArray := ⟨#[97, 98, 99, 100, 101, 102, 103, 104, 105, 106, 107, 108, 109, 110, 111, 112, 113, 114, 115, 116, 117, 118, 119, 120, 121, 122, 48, 49, 50, 51, 52, 53, 54, 55, 56, 57]⟩

theorem dig_there : ∀ n : Fin 256, 48 ≤ n.val → n.val ≤ 57 → ∃ i : Fin 10, (digAlpha[i.val]'(i.isLt)).toNat = n.val := by decide +kernel
theorem dig_only : ∀ i : Fin 10, 48 ≤ (digAlpha[i.val]'(i.isLt)).toNat ∧ (digAlpha[i.val]'(i.isLt)).toNat ≤ 57 := by decide +kernel
theorem name_there : ∀ n : Fin 256, ((48 ≤ n.val ∧ n.val ≤ 57) ∨ (97 ≤ n.val ∧ n.val ≤ 122)) → ∃ i : Fin 36, (nameAlpha[i.val]'(i.isLt)).toNat = n.val := by decide +kernel
theorem name_only : ∀ i : Fin 36, (48 ≤ (nameAlpha[i.val]'(i.isLt)).toNat ∧ (nameAlpha[i.val]'(i.isLt)).toNat ≤ 57) ∨ (97 ≤ (nameAlpha[i.val]'(i.isLt)).toNat ∧ (nameAlpha[i.val]'(i.isLt)).toNat ≤ 122) := by decide +kernel

theorem low_iff (c : UInt8) : low c = true ↔ 97 ≤ c.toNat ∧ c.toNat ≤ 122 := by simp [low]; omega
theorem dig_iff (c : UInt8) : dig c = true ↔ 48 ≤ c.toNat ∧ c.toNat ≤ 57 := by simp [dig]; omega

theorem dig_at (c : UInt8) (h : dig c = true) : ∃ k, ∃ hk : k < digAlpha.size, ((digAlpha[k].toNat : Int) = (c.toNat : Int)) := by
  rw [dig_iff] at h
  obtain ⟨i, hi⟩ := dig_there ⟨c.toNat, c.toNat_lt⟩ h.1 h.2
  exact ⟨i.val, i.isLt, congrArg Nat.cast hi⟩
theorem dig_off (c : UInt8) (h : dig c = false) : ∀ k, (hk : k < digAlpha.size) → ((digAlpha[k].toNat : Int) == (c.toNat : Int)) = false := by
  intro k hk
  have o := dig_only ⟨k, hk⟩
  have n : ¬ (48 ≤ c.toNat ∧ c.toNat ≤ 57) := fun h' => by rw [(dig_iff c).2 h'] at h; cases h
  rw [beq_eq_false_iff_ne]
  intro e
  have e' : digAlpha[k].toNat = c.toNat := by omega
  exact n (e' ▸ o)
theorem name_at (c : UInt8) (h : (dig c || low c) = true) : ∃ k, ∃ hk : k < nameAlpha.size, ((nameAlpha[k].toNat : Int) = (c.toNat : Int)) := by
  rw [Bool.or_eq_true, dig_iff, low_iff] at h
  obtain ⟨i, hi⟩ := name_there ⟨c.toNat, c.toNat_lt⟩ h
  exact ⟨i.val, i.isLt, congrArg Nat.cast hi⟩
theorem name_off (c : UInt8) (h : (dig c || low c) = false) : ∀ k, (hk : k < nameAlpha.size) → ((nameAlpha[k].toNat : Int) == (c.toNat : Int)) = false := by
  intro k hk
  have o := name_only ⟨k, hk⟩
  have n : ¬ ((48 ≤ c.toNat ∧ c.toNat ≤ 57) ∨ (97 ≤ c.toNat ∧ c.toNat ≤ 122)) := fun h' => by
    rw [← dig_iff, ← low_iff, ← Bool.or_eq_true] at h'; rw [h'] at h; cases h
  rw [beq_eq_false_iff_ne]
  intro e
  have e' : nameAlpha[k].toNat = c.toNat := by omega
  exact n (e' ▸ o)

end Go.Proofs.Qxb6603360a.Plain
