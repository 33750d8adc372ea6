/-
  The walks of skipSpace, its door and isJSONSpace. By an AI agent.
-/
import Derived.Test.Qxb6001738aRows
import Derived.Test.Qxb6001738aPlain
import Derived.WalkKit
import Derived.WalkSpells
import Derived.Outline
namespace Go.Proofs.Qxb6001738a
open Go.RowKit Plain

/-- A space as RFC 8259 has it. -/
def spc (c : Int) : Bool := c == 32 || (c == 9 || (c == 10 || c == 13))

theorem spc_cases (c : Int) : ((c == 32) = true ∧ spc c = true) ∨ ((c == 32) = false ∧ (c == 9) = true ∧ spc c = true) ∨ ((c == 32) = false ∧ (c == 9) = false ∧ (c == 10) = true ∧ spc c = true) ∨
    ((c == 32) = false ∧ (c == 9) = false ∧ (c == 10) = false ∧ (c == 13) = true ∧ spc c = true) ∨ ((c == 32) = false ∧ (c == 9) = false ∧ (c == 10) = false ∧ (c == 13) = false ∧ spc c = false) := by
  unfold spc
  cases (c == 32) <;> cases (c == 9) <;> cases (c == 10) <;> cases (c == 13) <;> simp

def lenOf : Value → Nat | .slice _ l _ => l | _ => 0

set_option maxHeartbeats 400000 in
theorem space10 (c : Int) (w : World) :
    Calls Try.prog 10 #[.int .u8 c] w fun e w' => e = .returned (.bool (spc c)) ∧ w' = w := by
  rcases spc_cases c with ⟨a, h⟩ | ⟨a, b, h⟩ | ⟨a, b, d, h⟩ | ⟨a, b, d, f, h⟩ | ⟨a, b, d, f, h⟩
  all_goals
    rw [h]; clear h
    go_enter Try.func10, Try.ntmps10
    go_wp2
    go_ret
    exact ⟨rfl, rfl⟩

theorem skip_step {zs : List Int} {k : Nat} {c : Int} (H3 : Hid (∀ i, i < k → spc (zs.getD i 0) = true)) (HC : Hid (c = zs.getD k 0)) (h : spc c = true) : Hid (∀ i, i < k + 1 → spc (zs.getD i 0) = true) := by
  intro i hi
  by_cases e : i = k
  · subst e; rw [← HC.out]; exact h
  · exact H3.out i (by omega)

set_option maxHeartbeats 1000000 in
/-- skipSpace of a row that begins at a block's head: k numbers are struck, all of them space; the next, if there is one, is none. -/
theorem skip19 (w : World) (g n : Nat) (zs : List Int) (_hn : n ≤ 1048576) (hc : ∀ j, j < n → w.cell? ⟨g, j, none⟩ = some (.int .u8 (zs.getD j 0))) :
    Calls Try.prog 19 #[.slice (some ⟨g, 0, none⟩) n n] w fun e w' => ∃ (k l : Nat) (ad : Addr), e = .returned (.slice (some ad) l l) ∧ w' = w ∧ Hid (k + l = n) ∧ Hid (0 < l → ad = ⟨g, k, none⟩) ∧
      Hid (∀ i, i < k → spc (zs.getD i 0) = true) ∧ Hid (0 < l → spc (zs.getD k 0) = false) := by
  go_enter Try.func19, Try.ntmps19
  go_wp2
  go_loop [0] (fun v => ∃ (k l : Nat) (ad : Addr), v = .slice (some ad) l l ∧ l ≤ n ∧ Hid (k + l = n) ∧ Hid (0 < l → ad = ⟨g, k, none⟩) ∧ Hid (∀ i, i < k → spc (zs.getD i 0) = true)) (fun v => lenOf v)
  case atStart => exact ⟨0, n, ⟨g, 0, none⟩, rfl, Nat.le_refl _, Nat.zero_add _, fun _ => rfl, fun i h => absurd h (Nat.not_lt_zero _)⟩
  case round =>
    obtain ⟨k, l, ad, rfl, hle, H1, H2, H3⟩ := hrel
    obtain rfl | ⟨l', rfl⟩ : l = 0 ∨ ∃ l', l = l' + 1 := by cases l with | zero => exact .inl rfl | succ m => exact .inr ⟨m, rfl⟩
    · clear hc
      go_wp2
      go_ret
      exact ⟨k, 0, ad, rfl, rfl, H1, H2, H3, fun h => absurd h (Nat.lt_irrefl _)⟩
    · obtain rfl : ad = ⟨g, k, none⟩ := H2.out (by omega)
      have hk := hc k (by have := H1.out; omega)
      clear hc
      obtain ⟨c, hce⟩ : ∃ c, c = zs.getD k 0 := ⟨_, rfl⟩
      rw [← hce] at hk
      have HC : Hid (c = zs.getD k 0) := hce
      clear hce
      rcases spc_cases c with ⟨a, h⟩ | ⟨a, b, h⟩ | ⟨a, b, d, h⟩ | ⟨a, b, d, f, h⟩ | ⟨a, b, d, f, h⟩
      · have HS := skip_step H3 HC h
        clear h HC H3
        by_cases hl : l' = 0
        · subst hl
          go_wp2
          go_round
          case rel => exact ⟨k + 1, 0, _, rfl, Nat.zero_le _, by have := H1.out; show k + 1 + 0 = n; omega, fun h => absurd h (Nat.lt_irrefl _), HS⟩
          case measure => simp [lenOf]
        · go_wp2
          go_round
          case rel => exact ⟨k + 1, l', _, rfl, by omega, by have := H1.out; show k + 1 + l' = n; omega, fun _ => rfl, HS⟩
          case measure => simp [lenOf]
      · have HS := skip_step H3 HC h
        clear h HC H3
        by_cases hl : l' = 0
        · subst hl
          go_wp2
          go_round
          case rel => exact ⟨k + 1, 0, _, rfl, Nat.zero_le _, by have := H1.out; show k + 1 + 0 = n; omega, fun h => absurd h (Nat.lt_irrefl _), HS⟩
          case measure => simp [lenOf]
        · go_wp2
          go_round
          case rel => exact ⟨k + 1, l', _, rfl, by omega, by have := H1.out; show k + 1 + l' = n; omega, fun _ => rfl, HS⟩
          case measure => simp [lenOf]
      · have HS := skip_step H3 HC h
        clear h HC H3
        by_cases hl : l' = 0
        · subst hl
          go_wp2
          go_round
          case rel => exact ⟨k + 1, 0, _, rfl, Nat.zero_le _, by have := H1.out; show k + 1 + 0 = n; omega, fun h => absurd h (Nat.lt_irrefl _), HS⟩
          case measure => simp [lenOf]
        · go_wp2
          go_round
          case rel => exact ⟨k + 1, l', _, rfl, by omega, by have := H1.out; show k + 1 + l' = n; omega, fun _ => rfl, HS⟩
          case measure => simp [lenOf]
      · have HS := skip_step H3 HC h
        clear h HC H3
        by_cases hl : l' = 0
        · subst hl
          go_wp2
          go_round
          case rel => exact ⟨k + 1, 0, _, rfl, Nat.zero_le _, by have := H1.out; show k + 1 + 0 = n; omega, fun h => absurd h (Nat.lt_irrefl _), HS⟩
          case measure => simp [lenOf]
        · go_wp2
          go_round
          case rel => exact ⟨k + 1, l', _, rfl, by omega, by have := H1.out; show k + 1 + l' = n; omega, fun _ => rfl, HS⟩
          case measure => simp [lenOf]
      · have HS : Hid (0 < l' + 1 → spc (zs.getD k 0) = false) := fun _ => by rw [← HC.out]; exact h
        clear h HC
        go_wp2
        go_ret
        exact ⟨k, l' + 1, _, rfl, rfl, H1, fun _ => rfl, H3, HS⟩

/-- skipSpace of nil. -/
theorem skip19_nil (w : World) :
    Calls Try.prog 19 #[.slice none 0 0] w fun e w' => e = .returned (.slice none 0 0) ∧ w' = w := by
  go_enter Try.func19, Try.ntmps19
  go_wp2
  refine wp_loop_rounds 1 ?_
  rw [rounds_succ]
  go_wp2
  go_ret
  exact ⟨rfl, rfl⟩

/-- ZZSkipSpace: skipSpace's door. -/
theorem skip9 (w : World) (g n : Nat) (zs : List Int) (hn : n ≤ 1048576) (hc : ∀ j, j < n → w.cell? ⟨g, j, none⟩ = some (.int .u8 (zs.getD j 0))) :
    Calls Try.prog 9 #[.slice (some ⟨g, 0, none⟩) n n] w fun e w' => ∃ (k l : Nat) (ad : Addr), e = .returned (.slice (some ad) l l) ∧ w' = w ∧ Hid (k + l = n) ∧ Hid (0 < l → ad = ⟨g, k, none⟩) ∧
      Hid (∀ i, i < k → spc (zs.getD i 0) = true) ∧ Hid (0 < l → spc (zs.getD k 0) = false) := by
  have hC := skip19 w g n zs hn hc
  clear hc
  go_enter Try.func9, Try.ntmps9
  go_wp2_with (go_at_call 19; refine hC.mono ?_; rintro e w' ⟨k, l, ad, rfl, rfl, H1, H2, H3, H4⟩)
  go_ret
  exact ⟨_, _, _, rfl, rfl, H1, H2, H3, H4⟩
theorem skip9_nil (w : World) :
    Calls Try.prog 9 #[.slice none 0 0] w fun e w' => e = .returned (.slice none 0 0) ∧ w' = w := by
  go_enter Try.func9, Try.ntmps9
  go_wp2_with (go_at_call 19; refine (skip19_nil _).mono ?_; rintro e w' ⟨rfl, rfl⟩)
  go_ret
  exact ⟨rfl, rfl⟩

end Go.Proofs.Qxb6001738a
