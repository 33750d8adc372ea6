/-
  The walk of FnSkipSpaceStripsExactlyLeadingSpace. By an AI agent.
-/
import Derived.Test.Qxb6001738aClone
import Derived.Test.Qxb6001738aSkip
import Derived.Deep.QuietTactic
import Derived.BigQuiet
import Derived.WalkSmall
namespace Go.Proofs.Qxb6001738a
open Go.RowKit Plain

/-- zzBytes_..: the total length is within the bound. -/
theorem bytes7 (a : Option Addr) (len cap : Nat) (w : World) (hs : len ≤ 1048576) :
    Calls Try.prog 7 #[.slice a len cap] w fun e w' => e = .returned (.bool true) ∧ w' = w := by
  go_enter Try.func7, Try.ntmps7
  go_wp2
  go_ret
  exact ⟨rfl, rfl⟩
theorem bytes7_no (a : Option Addr) (len cap : Nat) (w : World) (hs : ¬ len ≤ 1048576) (hm : len ≤ maxLen) :
    Calls Try.prog 7 #[.slice a len cap] w fun e w' => e = .returned (.bool false) ∧ w' = w := by
  unfold maxLen at hm
  go_enter Try.func7, Try.ntmps7
  go_wp2
  go_ret
  exact ⟨rfl, rfl⟩

theorem law3_long (a : Option Addr) (len cap : Nat) (w : World) (hs : ¬ len ≤ 1048576) (hm : len ≤ maxLen) :
    Calls Try.prog 3 #[.slice a len cap] w fun e w' => e = .returned (.bool true) ∧ w' = w := by
  go_enter Try.func3, Try.ntmps3
  go_wp2_with (go_at_call 7; refine (bytes7_no _ _ _ _ hs hm).mono ?_; rintro e w' ⟨rfl, rfl⟩)
  go_ret
  exact ⟨rfl, rfl⟩

set_option maxHeartbeats 1000000 in
theorem law3_nil (w : World) :
    Calls Try.prog 3 #[.slice none 0 0] w fun e w' => e = .returned (.bool true) ∧ w' = w := by
  go_enter Try.func3, Try.ntmps3
  go_wp2_with (first | (go_at_call 7; refine (bytes7 _ _ _ _ (by decide)).mono ?_; rintro e w' ⟨rfl, rfl⟩) | (go_at_call 8; refine (clone8_nil _).mono ?_; rintro e w' ⟨rfl, rfl⟩) | (go_at_call 9; refine (skip9_nil _).mono ?_; rintro e w' ⟨rfl, rfl⟩))
  refine wp_loop_rounds 1 ?_
  rw [rounds_succ]
  go_wp2
  refine wp_loop_rounds 1 ?_
  rw [rounds_succ]
  go_wp2
  go_ret
  exact ⟨rfl, rfl⟩

/-- What a row of the call's own holds, cell by cell. -/
theorem row_cells {w : World} {base e g n : Nat} {kd : IntKind} {ys : List Int} (h : w.ownsRow base e 1 (.slice (some ⟨g, 0, none⟩) n n) n (ys.map (Value.int kd))) (hy : ys.length = n) :
    ∀ j, j < n → w.cell? ⟨g, j, none⟩ = some (.int kd (ys.getD j 0)) := by
  intro j hj
  rw [h.cellAt j (by omega), List.getElem?_map, List.getD_eq_getElem?_getD, List.getElem?_eq_getElem (by omega)]
  rfl

set_option maxHeartbeats 2000000 in
theorem law3_row (w : World) (x : Addr) (len cap : Nat) (zs : List Int) (hl : len ≤ cap) (hcap : zs.length = cap) (hs : len ≤ 1048576)
    (hcell : ∀ i, i < zs.length → w.cell? (x.add i) = some (.int .u8 (zs.getD i 0))) :
    Calls Try.prog 3 #[.slice (some x) len cap] w fun e w' => e = .returned (.bool true) ∧ Below w.heap.size w w' := by
  have hB7 := bytes7 (some x) len cap w hs
  have hC8 := clone8 w x len cap zs hl hcap hs hcell
  clear hcell
  go_enter Try.func3, Try.ntmps3
  go_wp2_with (first | (go_at_call 7; refine hB7.mono ?_; rintro e w' ⟨rfl, hw⟩; obtain rfl := hw.symm) | (go_at_call 8; refine hC8.mono ?_; rintro e w1 ⟨rfl, hown, hbel⟩))
  clear hB7 hC8
  obtain ⟨ys, hys⟩ : ∃ ys, ys = zs.take len := ⟨_, rfl⟩
  have hyl : ys.length = len := by rw [hys, List.length_take]; omega
  rw [← hys] at hown
  clear hys
  have hr := row_cells hown hyl
  refine (skip9 w1 w.heap.size len ys hs hr).mono ?_
  rintro e w' ⟨k, l, ad, rfl, hw, H1, H2, H3, H4⟩
  obtain rfl := hw.symm
  have hln : l ≤ len := by have := H1.out; omega
  have hkn : k ≤ len := by have := H1.out; omega
  have hdl : decide (len < l) = false := by rw [decide_eq_false_iff_not]; omega
  have hnl : (len : Int) - (l : Int) = (k : Int) := by have := H1.out; omega
  have HC : Hid (∀ j, j < len → w1.cell? ⟨w.heap.size, j, none⟩ = some (.int .u8 (ys.getD j 0))) := hr
  clear hr hcap hl hyl
  go_wp2
  clear hnl hdl
  go_loopw [5] (fun i wr => ∃ j : Nat, j ≤ l ∧ i = .int .i64 j ∧ Hid (Below w1.heap.size w1 wr) ∧ Hid (Below w.heap.size w wr)) (fun i _ => l - (intOf i).toNat)
  case atStart => exact ⟨0, Nat.zero_le _, rfl, Below.refl _ _, hbel⟩
  case round =>
    obtain ⟨j, hj, rfl, B1, B2⟩ := hrel
    by_cases hlt : j < l
    · obtain rfl : ad = ⟨w.heap.size, k, none⟩ := H2.out (by omega)
      have hc0 : wr.cell? ⟨w.heap.size, k + j, none⟩ = some (.int .u8 (ys.getD (k + j) 0)) := cell_later B1.out (HC.out (k + j) (by have := H1.out; omega))
      obtain ⟨c, hc⟩ : ∃ c, wr.cell? ⟨w.heap.size, k + j, none⟩ = some (.int .u8 c) := ⟨_, hc0⟩
      have hbd : (k : Int) + (j : Int) < (len : Int) := by have := H1.out; omega
      clear hc0 hown hbel
      go_wp2
      go_quiet (fail)
      go_wp2
      go_roundw
      case rel => exact ⟨j + 1, by omega, by go_num, below_drewN B1.out _, below_drewN B2.out _⟩
      case measure => simp [intOf]; omega
    · clear hown hbel
      go_wp2
      go_loop [6] (fun i => ∃ j : Nat, j ≤ k ∧ i = .int .i64 j) (fun i => k - (intOf i).toNat)
      case atStart => exact ⟨0, Nat.zero_le _, rfl⟩
      case round =>
        clear hj hlt
        obtain ⟨j, hj, rfl⟩ := hrel
        by_cases hlt : j < k
        · have hc0 : wr.cell? ⟨w.heap.size, j, none⟩ = some (.int .u8 (ys.getD j 0)) := cell_later B1.out (HC.out j (by omega))
          have hs0 := H3.out j hlt
          obtain ⟨c, hc, hsp⟩ : ∃ c, wr.cell? ⟨w.heap.size, j, none⟩ = some (.int .u8 c) ∧ spc c = true := ⟨_, hc0, hs0⟩
          clear hc0 hs0
          go_wp2_with (go_at_call 10; refine (space10 _ _).mono ?_; rintro e w' ⟨rfl, rfl⟩)
          go_round
          case rel => exact ⟨j + 1, by omega, by go_num⟩
          case measure => simp [intOf]; omega
        · by_cases hl0 : 0 < l
          · obtain rfl : ad = ⟨w.heap.size, k, none⟩ := H2.out hl0
            have hc0 : wr.cell? ⟨w.heap.size, k, none⟩ = some (.int .u8 (ys.getD k 0)) := cell_later B1.out (HC.out k (by have := H1.out; omega))
            have hs0 := H4.out hl0
            obtain ⟨c, hc, hsp⟩ : ∃ c, wr.cell? ⟨w.heap.size, k, none⟩ = some (.int .u8 c) ∧ spc c = false := ⟨_, hc0, hs0⟩
            clear hc0 hs0
            go_wp2_with (go_at_call 10; refine (space10 _ _).mono ?_; rintro e w' ⟨rfl, rfl⟩)
            go_ret
            exact ⟨rfl, B2.out⟩
          · have hl1 : ¬ (0 < (l : Int)) := by omega
            go_wp2
            go_ret
            exact ⟨rfl, B2.out⟩

end Go.Proofs.Qxb6001738a
