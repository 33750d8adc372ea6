/-
  The walk of FnIsDigitsAgreesWithIsName. By an AI agent.
-/
import Derived.Test.Qxb6603360aIsName
namespace Go.Proofs.Qxb6603360a
open Go.RowKit Plain

/-- zzBytes_..: the total length is within the bound. -/
theorem bytes17 (s : ByteArray) (w : World) (hs : s.size ≤ 1048576) :
    Calls Try.prog 17 #[.string s] w fun e w' => e = .returned (.bool true) ∧ w' = w := by
  go_enter Try.func17, Try.ntmps17
  go_wp2
  go_ret
  exact ⟨rfl, rfl⟩
theorem bytes17_no (s : ByteArray) (w : World) (hs : ¬ s.size ≤ 1048576) (hm : s.size ≤ maxLen) :
    Calls Try.prog 17 #[.string s] w fun e w' => e = .returned (.bool false) ∧ w' = w := by
  unfold maxLen at hm
  go_enter Try.func17, Try.ntmps17
  go_wp2
  go_ret
  exact ⟨rfl, rfl⟩

theorem pl_low {s : ByteArray} {k : Nat} (hk : k < s.size) (h1 : 97 ≤ (s[k].toNat : Int)) (h2 : (s[k].toNat : Int) ≤ 122) : plainTo s (k + 1) = false := by
  rw [plainTo_succ, bt_eq hk, low_yes h1 h2]; simp
theorem pl_hyphen {s : ByteArray} {k : Nat} (hk : k < s.size) (h : s[k] = 45) : plainTo s (k + 1) = false := by
  rw [plainTo_succ, bt_eq hk, h]; simp
theorem pl_other {s : ByteArray} {k : Nat} (hk : k < s.size) (hl : low s[k] = false) (h : s[k] ≠ 45) : plainTo s (k + 1) = plainTo s k := by
  rw [plainTo_succ, bt_eq hk, hl]; simp [h]
theorem is45' {c : UInt8} (e : (c.toNat : Int) = 45) : c = 45 := UInt8.toNat.inj (by have h45n : (45 : UInt8).toNat = 45 := rfl; omega)
theorem low_no1 {c : UInt8} (h : (c.toNat : Int) < 97) : low c = false := by
  have : ¬ (97 ≤ (c.toNat : Int)) := by omega
  simp [low, this]
theorem low_no2 {c : UInt8} (h : 122 < (c.toNat : Int)) : low c = false := by
  have : ¬ ((c.toNat : Int) ≤ 122) := by omega
  simp [low, this]

set_option maxHeartbeats 1000000 in
theorem law8 (s : ByteArray) (w : World) (hm : s.size ≤ maxLen) :
    Calls Try.prog 8 #[.string s] w fun e w' => e = .returned (.bool true) ∧ w' = w := by
  by_cases hs : s.size ≤ 1048576
  · clear hm
    go_enter Try.func8, Try.ntmps8
    go_wp2_with (go_at_call 17; refine (bytes17 _ _ hs).mono ?_; rintro e w' ⟨rfl, rfl⟩)
    go_loop [3, 4] (fun b i => ∃ k : Nat, k ≤ s.size ∧ i = .int .i64 k ∧ b = .bool (plainTo s k)) (fun _ i => s.size - (intOf i).toNat)
    case atStart => exact ⟨0, Nat.zero_le _, rfl, rfl⟩
    case round =>
      obtain ⟨k, hk, rfl, rfl⟩ := hrel
      by_cases hlt : k < s.size
      · by_cases h45 : (s[k].toNat : Int) = 45
        · have b45 : ((s[k].toNat : Int) == 45) = true := by simpa using h45
          have hn : Hid (plainTo s (k + 1) = false) := pl_hyphen hlt (is45' h45)
          clear h45
          go_wp2
          go_round
          case rel => exact ⟨k + 1, by omega, by go_num, by rw [hn.out]⟩
          case measure => simp [intOf]; omega
        · have b45 : ((s[k].toNat : Int) == 45) = false := by rw [beq_eq_false_iff_ne]; exact h45
          have n45 : s[k] ≠ 45 := fun e => h45 (by rw [e]; rfl)
          clear h45
          by_cases h1 : (s[k].toNat : Int) < 97
          · have hn : Hid (plainTo s (k + 1) = plainTo s k) := pl_other hlt (low_no1 h1) n45
            clear n45
            go_wp2
            go_round
            case rel => exact ⟨k + 1, by omega, by go_num, by rw [hn.out]⟩
            case measure => simp [intOf]; omega
          · by_cases h2 : 122 < (s[k].toNat : Int)
            · have hn : Hid (plainTo s (k + 1) = plainTo s k) := pl_other hlt (low_no2 h2) n45
              clear n45
              go_wp2
              go_round
              case rel => exact ⟨k + 1, by omega, by go_num, by rw [hn.out]⟩
              case measure => simp [intOf]; omega
            · have hn : Hid (plainTo s (k + 1) = false) := pl_low hlt (by omega) (by omega)
              clear n45
              go_wp2
              go_round
              case rel => exact ⟨k + 1, by omega, by go_num, by rw [hn.out]⟩
              case measure => simp [intOf]; omega
      · have e : k = s.size := by omega
        subst e
        have hd : Hid (digs s = (name s && plainTo s s.size)) := digs_name s
        cases hq : name s with
        | true =>
          go_wp2_with (first | (go_at_call 14; refine (digits14 _ _ hs).mono ?_; rintro e w' ⟨rfl, rfl⟩) | (go_at_call 18; refine (name18 _ _ hs).mono ?_; rintro e w' ⟨rfl, rfl⟩))
          go_ret
          exact ⟨ret_bool (by rw [hd.out, hq]; simp), rfl⟩
        | false =>
          go_wp2_with (first | (go_at_call 14; refine (digits14 _ _ hs).mono ?_; rintro e w' ⟨rfl, rfl⟩) | (go_at_call 18; refine (name18 _ _ hs).mono ?_; rintro e w' ⟨rfl, rfl⟩))
          go_ret
          exact ⟨ret_bool (by rw [hd.out, hq]; simp), rfl⟩
  · go_enter Try.func8, Try.ntmps8
    go_wp2_with (go_at_call 17; refine (bytes17_no _ _ hs hm).mono ?_; rintro e w' ⟨rfl, rfl⟩)
    go_ret
    exact ⟨rfl, rfl⟩

end Go.Proofs.Qxb6603360a
