/-
  The walks of zzDigitsModel and of FnIsDigitsMatchesAlphabetModel. By an AI agent.
-/
import Derived.Test.Qxb6603360aDigits
namespace Go.Proofs.Qxb6603360a
open Go.RowKit Plain

/-- zzInAlphabet at the ten digits. -/
theorem alpha_dig (c : UInt8) (w : World) :
    Calls Try.prog 25 #[.int .u8 (c.toNat : Int), .string ⟨#[48, 49, 50, 51, 52, 53, 54, 55, 56, 57]⟩] w fun e w' => e = .returned (.bool (dig c)) ∧ w' = w := by
  cases h : dig c with
  | true => obtain ⟨k, hk, e⟩ := dig_at c h; exact alpha25_yes _ digAlpha w (by decide) k hk e
  | false => exact alpha25_no _ digAlpha w (by decide) (dig_off c h)

theorem cnt_yes {s : ByteArray} {k c : Nat} (h : Hid (c = k ↔ AllDig s k)) (hk : k < s.size) (hd : dig s[k] = true) : Hid (c + 1 = k + 1 ↔ AllDig s (k + 1)) := by
  constructor
  · intro e; exact (h.out.1 (by omega)).succ hk hd
  · intro a; have := h.out.2 (fun i hi hik => a i hi (by omega)); omega
theorem cnt_no {s : ByteArray} {k c : Nat} (hc : c ≤ k) (hk : k < s.size) (hd : dig s[k] = false) : Hid (c = k + 1 ↔ AllDig s (k + 1)) := by
  constructor
  · intro e; omega
  · intro a; exact absurd a (AllDig.not hk hd)

set_option maxHeartbeats 400000 in
theorem model15 (s : ByteArray) (w : World) (hs : s.size ≤ 1048576) :
    Calls Try.prog 15 #[.string s] w fun e w' => e = .returned (.bool (digs s)) ∧ w' = w := by
  go_enter Try.func15, Try.ntmps15
  go_wp2
  go_loop [3, 4] (fun n i => ∃ k c : Nat, k ≤ s.size ∧ c ≤ k ∧ i = .int .i64 k ∧ n = .int .i64 c ∧ Hid (c = k ↔ AllDig s k)) (fun _ i => s.size - (intOf i).toNat)
  case atStart => exact ⟨0, 0, Nat.zero_le _, Nat.le_refl _, rfl, rfl, ⟨fun _ => AllDig.zero s, fun _ => rfl⟩⟩
  case round =>
    obtain ⟨k, c, hk, hc, rfl, rfl, H⟩ := hrel
    by_cases hlt : k < s.size
    · cases hd : dig s[k] with
      | true =>
        have hn := cnt_yes H hlt hd
        go_wp2_with (go_at_call 25; refine (alpha_dig _ _).mono ?_; rintro e w' ⟨rfl, rfl⟩)
        go_round
        case rel => exact ⟨k + 1, c + 1, by omega, by omega, by go_num, by go_num, hn⟩
        case measure => simp [intOf]; omega
      | false =>
        have hn := cnt_no hc hlt hd
        go_wp2_with (go_at_call 25; refine (alpha_dig _ _).mono ?_; rintro e w' ⟨rfl, rfl⟩)
        go_round
        case rel => exact ⟨k + 1, c, by omega, by omega, by go_num, by go_num, hn⟩
        case measure => simp [intOf]; omega
    · have e : k = s.size := by omega
      subst e
      by_cases h0 : s.size = 0
      · have hn := digs_none h0
        have hz : ¬ (0 < (s.size : Int)) := by omega
        clear h0
        go_wp2
        go_ret
        exact ⟨rfl, rfl⟩
      · have hz : 0 < (s.size : Int) := by omega
        by_cases hcs : c = s.size
        · have hn := digs_good (by omega) (H.out.1 hcs)
          have hb : ((c : Int) == (s.size : Int)) = true := by rw [hcs]; simp
          clear h0 hcs
          go_wp2
          go_ret
          exact ⟨rfl, rfl⟩
        · have hn : digs s = false := by
            cases h : digs s with
            | false => rfl
            | true => exact absurd (H.out.2 ((digs_iff s).1 h).2) hcs
          have hb : ((c : Int) == (s.size : Int)) = false := by rw [beq_eq_false_iff_ne]; omega
          clear h0 hcs
          go_wp2
          go_ret
          exact ⟨rfl, rfl⟩

/-- zzBytes_..: the total length is within the bound. -/
theorem bytes13 (s : ByteArray) (w : World) (hs : s.size ≤ 1048576) :
    Calls Try.prog 13 #[.string s] w fun e w' => e = .returned (.bool true) ∧ w' = w := by
  go_enter Try.func13, Try.ntmps13
  go_wp2
  go_ret
  exact ⟨rfl, rfl⟩
theorem bytes13_no (s : ByteArray) (w : World) (hs : ¬ s.size ≤ 1048576) (hm : s.size ≤ maxLen) :
    Calls Try.prog 13 #[.string s] w fun e w' => e = .returned (.bool false) ∧ w' = w := by
  unfold maxLen at hm
  go_enter Try.func13, Try.ntmps13
  go_wp2
  go_ret
  exact ⟨rfl, rfl⟩

theorem law6 (s : ByteArray) (w : World) (hm : s.size ≤ maxLen) :
    Calls Try.prog 6 #[.string s] w fun e w' => e = .returned (.bool true) ∧ w' = w := by
  by_cases hs : s.size ≤ 1048576
  · go_enter Try.func6, Try.ntmps6
    go_wp2_with (first | (go_at_call 13; refine (bytes13 _ _ hs).mono ?_; rintro e w' ⟨rfl, rfl⟩) | (go_at_call 14; refine (digits14 _ _ hs).mono ?_; rintro e w' ⟨rfl, rfl⟩) | (go_at_call 15; refine (model15 _ _ hs).mono ?_; rintro e w' ⟨rfl, rfl⟩))
    go_ret
    exact ⟨by simp, rfl⟩
  · go_enter Try.func6, Try.ntmps6
    go_wp2_with (go_at_call 13; refine (bytes13_no _ _ hs hm).mono ?_; rintro e w' ⟨rfl, rfl⟩)
    go_ret
    exact ⟨rfl, rfl⟩

end Go.Proofs.Qxb6603360a
