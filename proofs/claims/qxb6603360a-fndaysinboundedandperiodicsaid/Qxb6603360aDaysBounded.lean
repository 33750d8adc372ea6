/-
  The walk of FnDaysInBoundedAndPeriodic. By an AI agent.
-/
import Derived.Test.Qxb6603360aDays
namespace Go.Proofs.Qxb6603360a
open Go.RowKit Plain

theorem bounded5 (y m : Int) (w : World) (h1 : -9223372036854775808 ≤ y) (h2 : y ≤ 9223372036854775807) :
    Calls Try.prog 5 #[.int .i64 y, .int .i64 m] w fun e w' => e = .returned (.bool true) ∧ w' = w := by
  obtain ⟨b1, b2⟩ := dim_bd y m
  by_cases hc : 9223372036854775407 < y
  · go_enter Try.func5, Try.ntmps5
    go_wp2_with (go_at_call 11; refine (days11 _ _ _).mono ?_; rintro e w' ⟨rfl, rfl⟩)
    go_ret
    exact ⟨rfl, rfl⟩
  · have hp : Hid (dim (y + 400) m = dim y m) := dim_period y m
    go_enter Try.func5, Try.ntmps5
    go_wp2_with (go_at_call 11; refine (days11 _ _ _).mono ?_; rintro e w' ⟨rfl, rfl⟩)
    go_ret
    exact ⟨by rw [hp.out]; simp, rfl⟩

end Go.Proofs.Qxb6603360a
