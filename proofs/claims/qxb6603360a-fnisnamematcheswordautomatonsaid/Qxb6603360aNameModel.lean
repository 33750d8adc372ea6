/-
  The walks of zzNameModel and of FnIsNameMatchesWordAutomaton. By an AI agent.
-/
import Derived.Test.Qxb6603360aIsName
namespace Go.Proofs.Qxb6603360a
open Go.RowKit Plain

/-- zzInAlphabet at the letters and the digits. -/
theorem alpha_name (c : UInt8) (w : World) :
    Calls Try.prog 25 #[.int .u8 (c.toNat : Int), .string ⟨#[97, 98, 99, 100, 101, 102, 103, 104, 105, 106, 107, 108, 109, 110, 111, 112, 113, 114, 115, 116, 117, 118, 119, 120, 121, 122, 48, 49, 50, 51, 52, 53, 54, 55, 56, 57]⟩] w fun e w' => e = .returned (.bool (chr c)) ∧ w' = w := by
  cases h : chr c with
  | true => obtain ⟨k, hk, e⟩ := name_at c h; exact alpha25_yes _ nameAlpha w (by decide) k hk e
  | false => exact alpha25_no _ nameAlpha w (by decide) (name_off c h)

/-- The automaton ahead of place k: all well so far; 'u' says whether it stands inside a word. -/
def InW (s : ByteArray) (k : Nat) (u : Bool) : Prop := OkTo s k ∧ (u = true ↔ 0 < k ∧ bt s (k - 1) ≠ 45)

theorem InW.zero (s : ByteArray) : InW s 0 false := ⟨OkTo.zero s, by simp⟩
theorem InW.chr {s : ByteArray} {k : Nat} {u : Bool} (h : InW s k u) (hk : k < s.size) (hc : chr s[k] = true) : InW s (k + 1) true :=
  ⟨h.1.succ (okB_chr hk hc), ⟨fun _ => ⟨by omega, not_hyphen hk hc⟩, fun _ => rfl⟩⟩
theorem InW.hyphen {s : ByteArray} {k : Nat} (h : InW s k true) (hk : k < s.size) (h45 : s[k] = 45) : InW s (k + 1) false := by
  have hu := h.2.1 rfl
  have e : bt s (k + 1 - 1) = 45 := by rw [Nat.add_sub_cancel, bt_eq hk]; exact h45
  refine ⟨h.1.succ (okB_hyphen hk h45 hu.1 hu.2), ?_, ?_⟩
  · intro f; cases f
  · intro f; exact absurd e f.2
theorem InW.bad {s : ByteArray} {k : Nat} (h : InW s k false) (hk : k < s.size) (hc : Plain.chr s[k] = false) : name s = false := by
  refine name_bad hk ?_
  by_cases h0 : k = 0
  · exact okB_first hk hc h0
  · refine okB_twice hk hc ?_
    by_cases e : bt s (k - 1) = 45
    · exact e
    · have := h.2.2 ⟨by omega, e⟩; cases this
theorem InW.fin {s : ByteArray} {u : Bool} (h : InW s s.size u) : u = name s := by
  rw [Bool.eq_iff_iff, name_iff, h.2]
  exact ⟨fun a => ⟨a.1, h.1, a.2⟩, fun a => ⟨a.1, a.2.2⟩⟩
theorem is45 {c : UInt8} (e : (c.toNat : Int) = 45) : c = 45 := UInt8.toNat.inj (by have h45n : (45 : UInt8).toNat = 45 := rfl; omega)

set_option maxHeartbeats 1000000 in
theorem model20 (s : ByteArray) (w : World) (hs : s.size ≤ 1048576) :
    Calls Try.prog 20 #[.string s] w fun e w' => e = .returned (.bool (name s)) ∧ w' = w := by
  go_enter Try.func20, Try.ntmps20
  go_wp2
  go_loop [3, 4] (fun b i => ∃ (k : Nat) (u : Bool), k ≤ s.size ∧ i = .int .i64 k ∧ b = .bool u ∧ InW s k u) (fun _ i => s.size - (intOf i).toNat)
  case atStart => exact ⟨0, false, Nat.zero_le _, rfl, rfl, InW.zero s⟩
  case round =>
    obtain ⟨k, u, hk, rfl, rfl, H⟩ := hrel
    by_cases hlt : k < s.size
    · cases hc : chr s[k] with
      | true =>
        have hn := H.chr hlt hc
        have b45 : ((s[k].toNat : Int) == 45) = false := by
          rw [beq_eq_false_iff_ne]; intro e
          exact not_hyphen hlt hc (by rw [bt_eq hlt]; exact is45 e)
        clear H
        go_wp2_with (go_at_call 25; refine (alpha_name _ _).mono ?_; rintro e w' ⟨rfl, rfl⟩)
        go_round
        case rel => exact ⟨k + 1, true, by omega, by go_num, rfl, hn⟩
        case measure => simp [intOf]; omega
      | false =>
        by_cases h45 : s[k] = 45
        · have b45 : ((s[k].toNat : Int) == 45) = true := by rw [h45]; rfl
          cases u with
          | true =>
            have hn := H.hyphen hlt h45
            clear H h45
            go_wp2
            go_round
            case rel => exact ⟨k + 1, false, by omega, by go_num, rfl, hn⟩
            case measure => simp [intOf]; omega
          | false =>
            have hn := H.bad hlt hc
            clear H h45
            go_wp2
            go_ret
            exact ⟨rfl, rfl⟩
        · have b45 : ((s[k].toNat : Int) == 45) = false := by
            rw [beq_eq_false_iff_ne]; intro e
            exact h45 (is45 e)
          have hn : name s = false := name_bad hlt (okB_other hlt hc h45)
          clear H h45
          go_wp2_with (go_at_call 25; refine (alpha_name _ _).mono ?_; rintro e w' ⟨rfl, rfl⟩)
          go_ret
          exact ⟨ret_bool hn.symm, rfl⟩
    · have e : k = s.size := by omega
      subst e
      have hn : Hid (u = name s) := H.fin
      clear H
      go_wp2
      go_ret
      exact ⟨ret_bool hn.out, rfl⟩

/-- zzBytes_..: the total length is within the bound. -/
theorem bytes19 (s : ByteArray) (w : World) (hs : s.size ≤ 1048576) :
    Calls Try.prog 19 #[.string s] w fun e w' => e = .returned (.bool true) ∧ w' = w := by
  go_enter Try.func19, Try.ntmps19
  go_wp2
  go_ret
  exact ⟨rfl, rfl⟩
theorem bytes19_no (s : ByteArray) (w : World) (hs : ¬ s.size ≤ 1048576) (hm : s.size ≤ maxLen) :
    Calls Try.prog 19 #[.string s] w fun e w' => e = .returned (.bool false) ∧ w' = w := by
  unfold maxLen at hm
  go_enter Try.func19, Try.ntmps19
  go_wp2
  go_ret
  exact ⟨rfl, rfl⟩

theorem law9 (s : ByteArray) (w : World) (hm : s.size ≤ maxLen) :
    Calls Try.prog 9 #[.string s] w fun e w' => e = .returned (.bool true) ∧ w' = w := by
  by_cases hs : s.size ≤ 1048576
  · go_enter Try.func9, Try.ntmps9
    go_wp2_with (first | (go_at_call 19; refine (bytes19 _ _ hs).mono ?_; rintro e w' ⟨rfl, rfl⟩) | (go_at_call 18; refine (name18 _ _ hs).mono ?_; rintro e w' ⟨rfl, rfl⟩) | (go_at_call 20; refine (model20 _ _ hs).mono ?_; rintro e w' ⟨rfl, rfl⟩))
    go_ret
    exact ⟨by simp, rfl⟩
  · go_enter Try.func9, Try.ntmps9
    go_wp2_with (go_at_call 19; refine (bytes19_no _ _ hs hm).mono ?_; rintro e w' ⟨rfl, rfl⟩)
    go_ret
    exact ⟨rfl, rfl⟩

end Go.Proofs.Qxb6603360a
