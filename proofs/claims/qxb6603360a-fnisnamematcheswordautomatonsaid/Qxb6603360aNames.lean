/-
  The plain mathematics of names: bytes, no Go in sight. By an AI agent.
-/
import Derived.Test.Qxb6603360aText
namespace Go.Proofs.Qxb6603360a.Plain

/-! ### Names -/

/-- The byte at place i (nought behind the end). -/
def bt (s : ByteArray) (i : Nat) : UInt8 := s.data.toList.getD i 0
theorem bt_eq {s : ByteArray} {i : Nat} (h : i < s.size) : bt s i = s[i] := by
  have hl : i < s.data.toList.length := by simpa using h
  unfold bt
  rw [List.getD_eq_getElem?_getD, List.getElem?_eq_getElem hl]
  rfl

/-- A letter or a digit. -/
def chr (c : UInt8) : Bool := dig c || low c
/-- The byte at place i may stand there: a letter, a digit, or a hyphen behind one of those. -/
def okB (s : ByteArray) (i : Nat) : Bool := chr (bt s i) || (bt s i == 45 && (decide (0 < i) && bt s (i - 1) != 45))
/-- A name: not empty, every byte may stand where it stands, the last is no hyphen. -/
def name (s : ByteArray) : Bool := decide (0 < s.size) && ((List.range s.size).all (okB s) && bt s (s.size - 1) != 45)

/-- Every byte ahead of place k may stand where it stands. -/
def OkTo (s : ByteArray) (k : Nat) : Prop := ∀ i, i < k → okB s i = true

theorem OkTo.zero (s : ByteArray) : OkTo s 0 := fun _ h => absurd h (Nat.not_lt_zero _)
theorem OkTo.succ {s : ByteArray} {k : Nat} (h : OkTo s k) (hk : okB s k = true) : OkTo s (k + 1) := by
  intro i hi
  by_cases e : i = k
  · subst e; exact hk
  · exact h i (by omega)

theorem name_iff (s : ByteArray) : name s = true ↔ 0 < s.size ∧ OkTo s s.size ∧ bt s (s.size - 1) ≠ 45 := by
  unfold name OkTo
  rw [Bool.and_eq_true, Bool.and_eq_true, List.all_eq_true, decide_eq_true_iff, bne_iff_ne]
  simp only [List.mem_range]

theorem name_false {s : ByteArray} (h : ¬ (0 < s.size ∧ OkTo s s.size ∧ bt s (s.size - 1) ≠ 45)) : name s = false := by
  cases e : name s with
  | false => rfl
  | true => exact absurd ((name_iff s).1 e) h

theorem name_bad {s : ByteArray} {k : Nat} (hk : k < s.size) (h : okB s k = false) : name s = false :=
  name_false fun ⟨_, b, _⟩ => by rw [b k hk] at h; cases h
theorem name_last {s : ByteArray} (h : bt s (s.size - 1) = 45) : name s = false := name_false fun ⟨_, _, c⟩ => c h
theorem name_none {s : ByteArray} (h : s.size = 0) : name s = false := name_false fun ⟨a, _, _⟩ => by omega
theorem name_good {s : ByteArray} (h : 0 < s.size) (ho : OkTo s s.size) (hl : bt s (s.size - 1) ≠ 45) : name s = true := (name_iff s).2 ⟨h, ho, hl⟩

theorem low_yes {c : UInt8} (h1 : 97 ≤ (c.toNat : Int)) (h2 : (c.toNat : Int) ≤ 122) : low c = true := by simp [low, h1, h2]

/-- The five kinds of a byte. -/
theorem kinds (c : UInt8) : (97 ≤ (c.toNat : Int) ∧ (c.toNat : Int) ≤ 122 ∧ chr c = true) ∨ (48 ≤ (c.toNat : Int) ∧ (c.toNat : Int) ≤ 57 ∧ chr c = true) ∨ ((c.toNat : Int) = 45 ∧ c = 45 ∧ chr c = false) ∨
    (c ≠ 45 ∧ ¬ ((c.toNat : Int) = 45) ∧ chr c = false ∧ ((c.toNat : Int) < 48 ∨ (57 < (c.toNat : Int) ∧ (c.toNat : Int) < 97) ∨ 122 < (c.toNat : Int))) := by
  have hch : chr c = true ↔ (48 ≤ c.toNat ∧ c.toNat ≤ 57) ∨ (97 ≤ c.toNat ∧ c.toNat ≤ 122) := by unfold chr; rw [Bool.or_eq_true, dig_iff, low_iff]
  have h45 : c = 45 ↔ c.toNat = 45 := ⟨fun h => by rw [h]; rfl, fun h => UInt8.toNat.inj h⟩
  by_cases a : (48 ≤ c.toNat ∧ c.toNat ≤ 57) ∨ (97 ≤ c.toNat ∧ c.toNat ≤ 122)
  · rcases a with a | a
    · exact .inr (.inl ⟨by omega, by omega, hch.2 (.inl a)⟩)
    · exact .inl ⟨by omega, by omega, hch.2 (.inr a)⟩
  · have hf : chr c = false := by
      cases e : chr c with
      | false => rfl
      | true => exact absurd (hch.1 e) a
    by_cases b : c.toNat = 45
    · exact .inr (.inr (.inl ⟨by omega, h45.2 b, hf⟩))
    · exact .inr (.inr (.inr ⟨fun h => b (h45.1 h), by omega, hf, by omega⟩))

theorem okB_chr {s : ByteArray} {k : Nat} (hk : k < s.size) (h : chr s[k] = true) : okB s k = true := by
  unfold okB; rw [bt_eq hk, h]; rfl
theorem okB_hyphen {s : ByteArray} {k : Nat} (hk : k < s.size) (h : s[k] = 45) (h0 : 0 < k) (hp : bt s (k - 1) ≠ 45) : okB s k = true := by
  unfold okB
  rw [bt_eq hk, h]
  simp [h0, hp]
theorem okB_other {s : ByteArray} {k : Nat} (hk : k < s.size) (h : chr s[k] = false) (hn : s[k] ≠ 45) : okB s k = false := by
  unfold okB; rw [bt_eq hk, h]; simp [hn]
theorem okB_first {s : ByteArray} {k : Nat} (hk : k < s.size) (h : chr s[k] = false) (h0 : k = 0) : okB s k = false := by
  unfold okB; rw [bt_eq hk, h]; simp [h0]
theorem okB_twice {s : ByteArray} {k : Nat} (hk : k < s.size) (h : chr s[k] = false) (hp : bt s (k - 1) = 45) : okB s k = false := by
  unfold okB; rw [bt_eq hk, h]; simp [hp]
theorem not_hyphen {s : ByteArray} {k : Nat} (hk : k < s.size) (h : chr s[k] = true) : bt s k ≠ 45 := by
  rw [bt_eq hk]; intro e; rw [e] at h; revert h; decide

/-! A text of digits is a name without a letter or a hyphen. -/

/-- Neither a letter nor a hyphen ahead of place k. -/
def plainTo (s : ByteArray) (k : Nat) : Bool := (List.range k).all fun i => !(low (bt s i)) && bt s i != 45

theorem plainTo_zero (s : ByteArray) : plainTo s 0 = true := rfl
theorem plainTo_succ (s : ByteArray) (k : Nat) : plainTo s (k + 1) = (plainTo s k && (!(low (bt s k)) && bt s k != 45)) := by
  unfold plainTo; rw [List.range_succ, List.all_append]; simp

theorem digs_name (s : ByteArray) : digs s = (name s && plainTo s s.size) := by
  rw [Bool.eq_iff_iff, Bool.and_eq_true, digs_iff, name_iff]
  have hpl : plainTo s s.size = true ↔ ∀ i, i < s.size → low (bt s i) = false ∧ bt s i ≠ 45 := by
    unfold plainTo
    rw [List.all_eq_true]
    simp only [List.mem_range, Bool.and_eq_true, Bool.not_eq_true', bne_iff_ne, ne_eq]
  rw [hpl]
  constructor
  · rintro ⟨h0, ha⟩
    have hd : ∀ i, i < s.size → dig (bt s i) = true := fun i hi => by rw [bt_eq hi]; exact ha i hi hi
    have hx : ∀ i, i < s.size → low (bt s i) = false ∧ bt s i ≠ 45 := by
      intro i hi
      have h := (dig_iff _).1 (hd i hi)
      refine ⟨?_, ?_⟩
      · cases e : low (bt s i) with
        | false => rfl
        | true => have := (low_iff _).1 e; omega
      · intro e; rw [e] at h; revert h; decide
    refine ⟨⟨h0, fun i hi => ?_, (hx _ (by omega)).2⟩, hx⟩
    unfold okB chr; rw [hd i hi]; rfl
  · rintro ⟨⟨h0, ho, _⟩, hx⟩
    refine ⟨h0, fun i hi _ => ?_⟩
    have o := ho i hi
    have x := hx i hi
    unfold okB chr at o
    rw [x.1] at o
    rw [← bt_eq hi]
    cases e : dig (bt s i) with
    | true => rfl
    | false => rw [e] at o; simp [x.2] at o

end Go.Proofs.Qxb6603360a.Plain
