/-
  The walk of FnDaysInMatchesCivilCalendar: zzDaysFromCivil, zzModelDaysIn, the law. By an AI agent.
-/
import Derived.Test.Qxb6603360aDays
namespace Go.Proofs.Qxb6603360a
open Go.RowKit Plain

set_option maxHeartbeats 1000000 in
theorem civil23 (y m : Int) (w : World) (y1 : 1 ≤ y) (y2 : y ≤ 1000) (m1 : 1 ≤ m) (m2 : m ≤ 12) :
    Calls Try.prog 23 #[.int .i64 y, .int .i64 m, .int .i64 1] w fun e w' => e = .returned (.int .i64 (dfc y m 1)) ∧ w' = w := by
  by_cases hm : m ≤ 2
  · go_enter Try.func23, Try.ntmps23
    go_wp2
    go_ret
    refine ⟨ret_int ?_, rfl⟩
    unfold dfc
    rw [if_pos hm, Int.add_sub_cancel]
  · go_enter Try.func23, Try.ntmps23
    go_wp2
    go_ret
    refine ⟨ret_int ?_, rfl⟩
    unfold dfc
    rw [if_neg (by omega), Int.add_sub_cancel]

/-- The same, its number under a name, with its bounds. -/
theorem civil23' (y m : Int) (w : World) (y1 : 1 ≤ y) (y2 : y ≤ 1000) (m1 : 1 ≤ m) (m2 : m ≤ 12) :
    Calls Try.prog 23 #[.int .i64 y, .int .i64 m, .int .i64 1] w fun e w' => ∃ d : Int, e = .returned (.int .i64 d) ∧ w' = w ∧ Hid (d = dfc y m 1) ∧ 0 ≤ d ∧ d ≤ 1000000 := by
  refine (civil23 y m w y1 y2 m1 m2).mono ?_
  rintro e w' ⟨rfl, rfl⟩
  have := dfc_bd y m 1 y1 y2 m1 m2 rfl
  exact ⟨_, rfl, rfl, rfl, this.1, this.2⟩

theorem tm_bd (y : Int) : -400 < y.tmod 400 ∧ y.tmod 400 < 400 := by
  have h := Int.tmod_eq_emod (a := y) (b := 400)
  have n : ((Int.natAbs 400 : Nat) : Int) = 400 := rfl
  by_cases c : 0 ≤ y ∨ (400 : Int) ∣ y
  · rw [if_pos c] at h; omega
  · rw [if_neg c, n] at h; omega

theorem end12 {y s a b : Int} (hs : yr y = s) (ha : Hid (a = dfc (s + 1) 1 1)) (hb : Hid (b = dfc s 12 1)) : a - b = dim y 12 := by
  subst hs
  have bd := yr_bd y
  rw [ha.out, hb.out, civil_12 (yr y) bd.1 bd.2]
  simp [dim]

theorem endm {y m s a b : Int} (m1 : 1 ≤ m) (m2 : m ≤ 11) (hs : yr y = s) (ha : Hid (a = dfc s (m + 1) 1)) (hb : Hid (b = dfc s m 1)) : a - b = dim y m := by
  subst hs
  have bd := yr_bd y
  rw [ha.out, hb.out, civil (yr y) m bd.1 bd.2 m1 m2, dim_yr]

set_option maxHeartbeats 1000000 in
theorem model12 (y m : Int) (w : World) (m1 : 1 ≤ m) (m2 : m ≤ 12) :
    Calls Try.prog 12 #[.int .i64 y, .int .i64 m] w fun e w' => e = .returned (.int .i64 (dim y m)) ∧ w' = w := by
  obtain ⟨t1, t2⟩ := tm_bd y
  have ht : Hid (yr y = (if y.tmod 400 < 0 then y.tmod 400 + 400 else y.tmod 400) + 400) := yr_tmod y
  by_cases hn : y.tmod 400 < 0
  · by_cases h12 : m = 12
    · subst h12
      go_enter Try.func12, Try.ntmps12
      go_wp2_with (go_at_call 23; refine (civil23' _ _ _ (by omega) (by omega) (by omega) (by omega)).mono ?_; rintro e w' ⟨d, rfl, rfl, hd, d1, d2⟩)
      go_ret
      exact ⟨ret_int (end12 (ht.out.trans (by rw [if_pos hn])) (by assumption) (by assumption)), rfl⟩
    · go_enter Try.func12, Try.ntmps12
      go_wp2_with (go_at_call 23; refine (civil23' _ _ _ (by omega) (by omega) (by omega) (by omega)).mono ?_; rintro e w' ⟨d, rfl, rfl, hd, d1, d2⟩)
      go_ret
      exact ⟨ret_int (endm m1 (by omega) (ht.out.trans (by rw [if_pos hn])) (by assumption) (by assumption)), rfl⟩
  · by_cases h12 : m = 12
    · subst h12
      go_enter Try.func12, Try.ntmps12
      go_wp2_with (go_at_call 23; refine (civil23' _ _ _ (by omega) (by omega) (by omega) (by omega)).mono ?_; rintro e w' ⟨d, rfl, rfl, hd, d1, d2⟩)
      go_ret
      exact ⟨ret_int (end12 (ht.out.trans (by rw [if_neg (by omega)])) (by assumption) (by assumption)), rfl⟩
    · go_enter Try.func12, Try.ntmps12
      go_wp2_with (go_at_call 23; refine (civil23' _ _ _ (by omega) (by omega) (by omega) (by omega)).mono ?_; rintro e w' ⟨d, rfl, rfl, hd, d1, d2⟩)
      go_ret
      exact ⟨ret_int (endm m1 (by omega) (ht.out.trans (by rw [if_neg (by omega)])) (by assumption) (by assumption)), rfl⟩

theorem civil3 (y m : Int) (w : World) :
    Calls Try.prog 3 #[.int .i64 y, .int .i64 m] w fun e w' => e = .returned (.bool true) ∧ w' = w := by
  by_cases h1 : m < 1
  · go_enter Try.func3, Try.ntmps3
    go_wp2
    go_ret
    exact ⟨rfl, rfl⟩
  · by_cases h2 : 12 < m
    · go_enter Try.func3, Try.ntmps3
      go_wp2
      go_ret
      exact ⟨rfl, rfl⟩
    · go_enter Try.func3, Try.ntmps3
      go_wp2_with (first | (go_at_call 11; refine (days11 _ _ _).mono ?_; rintro e w' ⟨rfl, rfl⟩) | (go_at_call 12; refine (model12 _ _ _ (by omega) (by omega)).mono ?_; rintro e w' ⟨rfl, rfl⟩))
      go_ret
      exact ⟨by simp, rfl⟩

end Go.Proofs.Qxb6603360a
