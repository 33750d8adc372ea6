/-
  The walks of daysIn and its door: each Go function computes the plain function 'Plain.dim'. By an AI agent.
-/
import Derived.Test.Qxb6603360aRows
import Derived.Test.Qxb6603360aPlain
import Derived.WalkKit
import Derived.WalkSpells
import Derived.Outline
namespace Go.Proofs.Qxb6603360a
open Go.RowKit Plain

theorem ret_int {k : IntKind} {a b : Int} (h : a = b) : Ending.returned (.int k a) = .returned (.int k b) := by rw [h]

theorem days22 (y m : Int) (w : World) :
    Calls Try.prog 22 #[.int .i64 y, .int .i64 m] w fun e w' => e = .returned (.int .i64 (dim y m)) ∧ w' = w := by
  go_enter Try.func22, Try.ntmps22
  go_wp2
  all_goals (go_ret; exact ⟨ret_int (by simp_all [dim]), rfl⟩)

/-- ZZdaysIn: daysIn's door. -/
theorem days11 (y m : Int) (w : World) :
    Calls Try.prog 11 #[.int .i64 y, .int .i64 m] w fun e w' => e = .returned (.int .i64 (dim y m)) ∧ w' = w := by
  go_enter Try.func11, Try.ntmps11
  go_wp2_with (go_at_call 22; refine (days22 _ _ _).mono ?_; rintro e w' ⟨rfl, rfl⟩)
  go_ret
  exact ⟨rfl, rfl⟩

end Go.Proofs.Qxb6603360a
