/-
  The walks of isDigits and its door. By an AI agent.
-/
import Derived.Test.Qxb6603360aRows
import Derived.Test.Qxb6603360aText
import Derived.WalkKit
import Derived.WalkSpells
import Derived.Outline
namespace Go.Proofs.Qxb6603360a
open Go.RowKit Plain

theorem ret_bool {a b : Bool} (h : a = b) : Ending.returned (.bool a) = .returned (.bool b) := by rw [h]

theorem empty_yes {s : ByteArray} (h : s.size = 0) : s.toList.isEmpty = true := by
  rw [ByteArray.toList_eq, List.isEmpty_iff_length_eq_zero]; simpa using h
theorem empty_no {s : ByteArray} (h : 0 < s.size) : s.toList.isEmpty = false := by
  rw [ByteArray.toList_eq]
  have hl : s.data.toList.length = s.size := by simp
  cases h' : s.data.toList with
  | nil => rw [h'] at hl; simp at hl; omega
  | cons x xs => rfl

set_option maxHeartbeats 400000 in
theorem digits24 (s : ByteArray) (w : World) (hs : s.size ≤ 1048576) :
    Calls Try.prog 24 #[.string s] w fun e w' => e = .returned (.bool (digs s)) ∧ w' = w := by
  by_cases h0 : s.size = 0
  · have he := empty_yes h0
    have hd := digs_none h0
    clear h0
    go_enter Try.func24, Try.ntmps24
    go_wp2
    go_ret
    exact ⟨ret_bool hd.symm, rfl⟩
  · have hp : 0 < s.size := by omega
    have he := empty_no hp
    go_enter Try.func24, Try.ntmps24
    go_wp2
    go_loop [3] (fun i => ∃ k : Nat, k ≤ s.size ∧ i = .int .i64 k ∧ AllDig s k) (fun i => s.size - (intOf i).toNat)
    case atStart => exact ⟨0, Nat.zero_le _, rfl, AllDig.zero s⟩
    case round =>
      obtain ⟨k, hk, rfl, ha⟩ := hrel
      by_cases hlt : k < s.size
      · rcases dig_cases s[k] with ⟨c1, c2, hd⟩ | ⟨c1, hd⟩ | ⟨c1, hd⟩
        · have hn := ha.succ hlt hd
          clear hd ha
          go_wp2
          go_round
          case rel => exact ⟨k + 1, by omega, by go_num, hn⟩
          case measure => simp [intOf]; omega
        · have hn := digs_bad hlt hd
          clear hd ha
          go_wp2
          go_ret
          exact ⟨rfl, rfl⟩
        · have hn := digs_bad hlt hd
          clear hd ha
          go_wp2
          go_ret
          exact ⟨rfl, rfl⟩
      · have e : k = s.size := by omega
        have hn := digs_good hp (e ▸ ha)
        clear e ha
        go_wp2
        go_ret
        exact ⟨rfl, rfl⟩

/-- ZZisDigits: isDigits' door. -/
theorem digits14 (s : ByteArray) (w : World) (hs : s.size ≤ 1048576) :
    Calls Try.prog 14 #[.string s] w fun e w' => e = .returned (.bool (digs s)) ∧ w' = w := by
  go_enter Try.func14, Try.ntmps14
  go_wp2_with (go_at_call 24; refine (digits24 _ _ hs).mono ?_; rintro e w' ⟨rfl, rfl⟩)
  go_ret
  exact ⟨rfl, rfl⟩

/-! ### zzInAlphabet: is the byte among the alphabet's? -/

theorem mem_step {s : ByteArray} {c : Int} {k : Nat} (hk : k < s.size) (hn : ¬ ((s[k].toNat : Int) = c)) (h : ∀ i, (h : i < s.size) → i < k → ¬ ((s[i].toNat : Int) = c)) :
    ∀ i, (h : i < s.size) → i < k + 1 → ¬ ((s[i].toNat : Int) = c) := by
  intro i hi hik
  by_cases e : i = k
  · subst e; exact hn
  · exact h i hi (by omega)

set_option maxHeartbeats 400000 in
/-- The byte stands in the alphabet. -/
theorem alpha25_yes (c : Int) (s : ByteArray) (w : World) (hs : s.size ≤ 1048576) (k0 : Nat) (hk0 : k0 < s.size) (hc : Hid ((s[k0].toNat : Int) = c)) :
    Calls Try.prog 25 #[.int .u8 c, .string s] w fun e w' => e = .returned (.bool true) ∧ w' = w := by
  go_enter Try.func25, Try.ntmps25
  go_wp2
  go_loop [5] (fun i => ∃ k : Nat, k ≤ k0 ∧ i = .int .i64 k) (fun i => k0 + 1 - (intOf i).toNat)
  case atStart => exact ⟨0, Nat.zero_le _, rfl⟩
  case round =>
    obtain ⟨k, hk, rfl⟩ := hrel
    have hlt : k < s.size := by omega
    by_cases e : (s[k].toNat : Int) = c
    · have e' : ((s[k].toNat : Int) == c) = true := by simpa using e
      clear e
      go_wp2
      go_ret
      exact ⟨rfl, rfl⟩
    · have e' : ((s[k].toNat : Int) == c) = false := by simpa using e
      have ne : k ≠ k0 := by rintro rfl; exact e hc.out
      have hk' : k < k0 := by omega
      clear e ne
      go_wp2
      go_round
      case rel => exact ⟨k + 1, by omega, by go_num⟩
      case measure => simp [intOf]; omega

set_option maxHeartbeats 400000 in
/-- The byte stands not in the alphabet. -/
theorem alpha25_no (c : Int) (s : ByteArray) (w : World) (hs : s.size ≤ 1048576) (hc : ∀ i, (h : i < s.size) → ((s[i].toNat : Int) == c) = false) :
    Calls Try.prog 25 #[.int .u8 c, .string s] w fun e w' => e = .returned (.bool false) ∧ w' = w := by
  go_enter Try.func25, Try.ntmps25
  go_wp2
  go_loop [5] (fun i => ∃ k : Nat, k ≤ s.size ∧ i = .int .i64 k) (fun i => s.size - (intOf i).toNat)
  case atStart => exact ⟨0, Nat.zero_le _, rfl⟩
  case round =>
    obtain ⟨k, hk, rfl⟩ := hrel
    by_cases hlt : k < s.size
    · have e' := hc k hlt
      go_wp2
      go_round
      case rel => exact ⟨k + 1, by omega, by go_num⟩
      case measure => simp [intOf]; omega
    · go_wp2
      go_ret
      exact ⟨rfl, rfl⟩

end Go.Proofs.Qxb6603360a
