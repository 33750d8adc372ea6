/-
  The walk of FnDaysInFourHundredYearCycle: two loops, one in the other. By an AI agent.
-/
import Derived.Test.Qxb6603360aDays
namespace Go.Proofs.Qxb6603360a
open Go.RowKit Plain

set_option maxHeartbeats 1000000 in
theorem cycle4 (y : Int) (w : World) (h1 : -9223372036854775808 ≤ y) (h2 : y ≤ 9223372036854775807) :
    Calls Try.prog 4 #[.int .i64 y] w fun e w' => e = .returned (.bool true) ∧ w' = w := by
  by_cases hc : 9223372036854775407 < y
  · go_enter Try.func4, Try.ntmps4
    go_wp2
    go_ret
    exact ⟨rfl, rfl⟩
  · go_enter Try.func4, Try.ntmps4
    go_wp2
    go_loop [3, 4] (fun t i => ∃ k : Int, 0 ≤ k ∧ k ≤ 400 ∧ i = .int .i64 k ∧ t = .int .i64 (run y k)) (fun _ i => (400 - intOf i).toNat)
    case atStart => exact ⟨0, by omega, by omega, rfl, by rw [run_zero]⟩
    case round =>
      obtain ⟨k, hk0, hk, rfl, rfl⟩ := hrel
      obtain ⟨rb1, rb2⟩ := run_bd y k (by omega) (by omega)
      by_cases hlt : k < 400
      · go_wp2
        go_loop [3, 5] (fun t j => ∃ m : Int, 1 ≤ m ∧ m ≤ 13 ∧ j = .int .i64 m ∧ t = .int .i64 (run y k + cum (y + k) m)) (fun _ j => (13 - intOf j).toNat)
        case atStart => exact ⟨1, by omega, by omega, rfl, by simp [cum]⟩
        case round =>
          obtain ⟨m, hm0, hm, rfl, rfl⟩ := hrel
          obtain ⟨cb1, cb2⟩ := cum_bd (y + k) m
          by_cases hm2 : m ≤ 12
          · obtain ⟨db1, db2⟩ := dim_bd (y + k) m
            have cs : Hid (cum (y + k) (m + 1) = cum (y + k) m + dim (y + k) m) := cum_succ (y + k) m hm0 hm2
            go_wp2_with (go_at_call 11; refine (days11 _ _ _).mono ?_; rintro e w' ⟨rfl, rfl⟩)
            go_round
            case rel => exact ⟨m + 1, by omega, by omega, by go_num, by rw [cs.out]; go_num⟩
            case measure => simp [intOf]; omega
          · have hm13 : m = 13 := by omega
            subst hm13
            have rs : Hid (run y (k + 1) = run y k + cum (y + k) 13) := run_succ y k
            go_wp2
            go_round
            case rel => exact ⟨k + 1, by omega, by omega, by go_num, by rw [rs.out]⟩
            case measure => simp [intOf]; omega
      · have hk4 : k = 400 := by omega
        subst hk4
        have r4 := run_400 y
        go_wp2
        go_ret
        exact ⟨rfl, rfl⟩

end Go.Proofs.Qxb6603360a
