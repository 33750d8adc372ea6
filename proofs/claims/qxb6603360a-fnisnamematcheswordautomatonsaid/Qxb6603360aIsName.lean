/-
  The walks of isName and its door. By an AI agent.
-/
import Derived.Test.Qxb6603360aDigits
import Derived.Test.Qxb6603360aNames
namespace Go.Proofs.Qxb6603360a
open Go.RowKit Plain

set_option maxHeartbeats 1000000 in
theorem name26 (s : ByteArray) (w : World) (hs : s.size ≤ 1048576) :
    Calls Try.prog 26 #[.string s] w fun e w' => e = .returned (.bool (name s)) ∧ w' = w := by
  go_enter Try.func26, Try.ntmps26
  go_wp2
  go_loop [3] (fun i => ∃ k : Nat, k ≤ s.size ∧ i = .int .i64 k ∧ Hid (OkTo s k ∧ (0 < k → bt s (k - 1) = 45 → k < s.size))) (fun i => s.size - (intOf i).toNat)
  case atStart => exact ⟨0, Nat.zero_le _, rfl, OkTo.zero s, fun h => absurd h (Nat.lt_irrefl _)⟩
  case round =>
    obtain ⟨k, hk, rfl, H⟩ := hrel
    by_cases hlt : k < s.size
    · rcases kinds s[k] with ⟨c1, c2, hc⟩ | ⟨c1, c2, hc⟩ | ⟨c1, h45, hc⟩ | ⟨h45, c1, hc, c2⟩
      · have hn : Hid (OkTo s (k + 1) ∧ (0 < k + 1 → bt s (k + 1 - 1) = 45 → k + 1 < s.size)) := ⟨H.out.1.succ (okB_chr hlt hc), fun _ e => absurd e (not_hyphen hlt hc)⟩
        clear hc H
        go_wp2
        go_round
        case rel => exact ⟨k + 1, by omega, by go_num, hn⟩
        case measure => simp [intOf]; omega
      · have hn : Hid (OkTo s (k + 1) ∧ (0 < k + 1 → bt s (k + 1 - 1) = 45 → k + 1 < s.size)) := ⟨H.out.1.succ (okB_chr hlt hc), fun _ e => absurd e (not_hyphen hlt hc)⟩
        clear hc H
        go_wp2
        go_round
        case rel => exact ⟨k + 1, by omega, by go_num, hn⟩
        case measure => simp [intOf]; omega
      · have b45 : ((s[k].toNat : Int) == 45) = true := by simpa using c1
        have c48 : (s[k].toNat : Int) < 48 := by omega
        clear c1
        by_cases h0 : k = 0
        · have hn := name_bad hlt (okB_first hlt hc h0)
          have hz : ¬ (0 < (k : Int)) := by omega
          clear h0 hc h45 H
          go_wp2
          go_ret
          exact ⟨rfl, rfl⟩
        · have hz : 0 < (k : Int) := by omega
          by_cases hl : k + 1 < s.size
          · have hl' : (k : Int) < (s.size : Int) - 1 := by omega
            have hp : k - 1 < s.size := by omega
            by_cases hq : (s[k - 1].toNat : Int) = 45
            · have hn : name s = false := name_bad hlt (okB_twice hlt hc (by rw [bt_eq hp]; exact UInt8.toNat.inj (by have h45n : (45 : UInt8).toNat = 45 := rfl; omega)))
              clear h0 hc h45 H hl
              go_wp2
              go_ret
              exact ⟨rfl, rfl⟩
            · have hqb : ((s[k - 1].toNat : Int) == 45) = false := by rw [beq_eq_false_iff_ne]; exact hq
              have hn : Hid (OkTo s (k + 1) ∧ (0 < k + 1 → bt s (k + 1 - 1) = 45 → k + 1 < s.size)) :=
                ⟨H.out.1.succ (okB_hyphen hlt h45 (by omega) (by rw [bt_eq hp]; intro e; exact hq (by rw [e]; rfl))), fun _ _ => hl⟩
              clear h0 hc h45 H hl hq
              go_wp2
              go_round
              case rel => exact ⟨k + 1, by omega, by go_num, hn⟩
              case measure => simp [intOf]; omega
          · have hl' : ¬ ((k : Int) < (s.size : Int) - 1) := by omega
            have hn : name s = false := name_last (by rw [show s.size - 1 = k by omega, bt_eq hlt]; exact h45)
            clear h0 hc h45 H hl
            go_wp2
            go_ret
            exact ⟨rfl, rfl⟩
      · have b45 : ((s[k].toNat : Int) == 45) = false := by rw [beq_eq_false_iff_ne]; exact c1
        have hn := name_bad hlt (okB_other hlt hc h45)
        clear c1 hc h45 H
        rcases c2 with c2 | ⟨c2, c3⟩ | c2
        all_goals
          go_wp2
          go_ret
          exact ⟨rfl, rfl⟩
    · have e : k = s.size := by omega
      subst e
      by_cases h0 : s.size = 0
      · have hn := name_none h0
        have he := empty_yes h0
        clear h0 H
        go_wp2
        go_ret
        exact ⟨rfl, rfl⟩
      · have hn : name s = true := name_good (by omega) H.out.1 (fun e => absurd (H.out.2 (by omega) e) (Nat.lt_irrefl _))
        have he := empty_no (show 0 < s.size by omega)
        clear h0 H
        go_wp2
        go_ret
        exact ⟨rfl, rfl⟩

/-- ZZisName: isName's door. -/
theorem name18 (s : ByteArray) (w : World) (hs : s.size ≤ 1048576) :
    Calls Try.prog 18 #[.string s] w fun e w' => e = .returned (.bool (name s)) ∧ w' = w := by
  go_enter Try.func18, Try.ntmps18
  go_wp2_with (go_at_call 26; refine (name26 _ _ hs).mono ?_; rintro e w' ⟨rfl, rfl⟩)
  go_ret
  exact ⟨rfl, rfl⟩

end Go.Proofs.Qxb6603360a
