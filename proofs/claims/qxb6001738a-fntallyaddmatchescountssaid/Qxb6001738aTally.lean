/-
  The walks of tally.add and tally.below and their doors. By an AI agent.
-/
import Derived.Test.Qxb6001738aRows
import Derived.Test.Qxb6001738aPlain
import Derived.WalkKit
import Derived.WalkSpells
import Derived.Outline
namespace Go.Proofs.Qxb6001738a
open Go.RowKit Plain

theorem ofInt_neg (n : Nat) (h : 1 ≤ n) (h2 : n ≤ 1048576) : (BitVec.ofInt 64 (-(n : Int))).toNat = 2 ^ 64 - n := by
  rw [BitVec.toNat_ofInt]
  omega

/-- 'i & -i' is the lowest set bit. -/
theorem and_neg (n : Nat) (h : 1 ≤ n) (h2 : n ≤ 1048576) : bits .and .i64 (n : Int) (-(n : Int)) = ((lsb n : Nat) : Int) := by
  have h1 : (BitVec.ofInt 64 (n : Int)).toNat = n := by
    rw [BitVec.ofInt_natCast, BitVec.toNat_ofNat]; exact Nat.mod_eq_of_lt (by omega)
  have hl := lsb_le n h h2
  show IntKind.i64.wrap ((BitVec.ofInt 64 (n : Int) &&& BitVec.ofInt 64 (-(n : Int))).toNat : Int) = _
  rw [BitVec.toNat_and, h1, ofInt_neg n h h2, land_neg 64 n h (by omega)]
  show IntKind.i64.wrap ((lsb n : Nat) : Int) = _
  simp [IntKind.wrap, IntKind.bits, IntKind.signed]
  omega

/-- A row of ints of the call's own: block g, its numbers T. -/
def Ints (w : World) (base g n : Nat) (T : List Int) : Prop := T.length = n ∧ w.ownsRow base 3 1 (.slice (some ⟨g, 0, none⟩) n n) n (T.map (Value.int .i64))

theorem Ints.cell {w : World} {base g n : Nat} {T : List Int} (h : Ints w base g n T) (j : Nat) (hj : j < n) : w.cell? ⟨g, j, none⟩ = some (.int .i64 (T.getD j 0)) := by
  rw [h.2.cellAt j (by omega), List.getElem?_map, List.getD_eq_getElem?_getD, List.getElem?_eq_getElem (by have := h.1; omega)]
  rfl
theorem Ints.free {w : World} {base g n : Nat} {T : List Int} (h : Ints w base g n T) (j : Nat) : w.frozen? ⟨g, j, none⟩ = false := h.2.frozenAt j
theorem Ints.store {w : World} {base g n : Nat} {T : List Int} (h : Ints w base g n T) (j : Nat) (v : Int) :
    Ints (w.setCell ⟨g, j, none⟩ (.int .i64 v)) base g n (T.set j v) ∧ w.grownBy (w.setCell ⟨g, j, none⟩ (.int .i64 v)) (some g) := by
  have R := h.2.stored j (.int .i64 v)
  exact ⟨⟨by simp [h.1], by rw [List.map_set]; exact R.1⟩, R.2⟩
theorem Ints.kept {w w' : World} {base g n : Nat} {T : List Int} {row : Option Nat} (h : Ints w base g n T) (hg : w.grownBy w' row) (hne : some g ≠ row) : Ints w' base g n T :=
  ⟨h.1, h.2.kept hg (.inr hne)⟩
theorem grown_trans {a b c : World} {row : Option Nat} (h : a.grownBy b row) (k : b.grownBy c row) : a.grownBy c row :=
  ⟨k.os.trans h.os, k.tape.trans h.tape, k.output.trans h.output, Nat.le_trans h.size k.size, fun i hi hr => (k.block i (Nat.lt_of_lt_of_le hi h.size) hr).trans (h.block i hi hr)⟩

set_option maxHeartbeats 1000000 in
/-- add: the nodes above the place are raised. -/
theorem add20 (w : World) (base g n p : Nat) (T : List Int) (hn : n ≤ 65536) (hp : p < n) (hb : ∀ j, 1 ≤ j → j ≤ n → 0 ≤ T.getD (j - 1) 0 ∧ T.getD (j - 1) 0 ≤ 131072) (hI : Ints w base g n T) :
    Calls Try.prog 20 #[.slice (some ⟨g, 0, none⟩) n n, .int .i64 p] w fun e w' => e = .returned (.tuple #[]) ∧ ∃ (q : Nat) (T' : List Int), Adding (p + 1) q T T' ∧ n < q ∧ Ints w' base g n T' ∧ w.grownBy w' (some g) := by
  have HB : Hid (∀ j, 1 ≤ j → j ≤ n → 0 ≤ T.getD (j - 1) 0 ∧ T.getD (j - 1) 0 ≤ 131072) := hb
  have HL : Hid (T.length = n) := hI.1
  clear hb
  go_enter Try.func20, Try.ntmps20
  go_wp2
  go_loopw [1] (fun i wr => ∃ (q : Nat) (T' : List Int), 1 ≤ q ∧ q ≤ 131072 ∧ i = .int .i64 q ∧ Adding (p + 1) q T T' ∧ Ints wr base g n T' ∧ Hid (w.grownBy wr (some g))) (fun i _ => n + 1 - (intOf i).toNat)
  case atStart => exact ⟨p + 1, T, by omega, by omega, by go_num, Adding.start _ _ (by omega), hI, World.grownBy.refl _ _⟩
  case round =>
    clear hI
    obtain ⟨q, T', hq1, hq2, rfl, hA, hI, hG⟩ := hrel
    by_cases hle : q ≤ n
    · have hc := hI.cell (q - 1) (by omega)
      have hf := hI.free (q - 1)
      have bd := HB.out q hq1 hle
      rw [← hA.2.2.2.2.2 q (Nat.le_refl _) (by rw [HL.out]; exact hle)] at bd
      have hS := hA.step (by rw [HL.out]; exact hle) (by rw [HL.out]; exact hn)
      have hR := hI.store (q - 1) (T'.getD (q - 1) 0 + 1)
      have hx := and_neg q hq1 (by omega)
      have d1 := lsb_pos q
      have d2 := lsb_le q hq1 (by omega)
      obtain ⟨v, hv⟩ : ∃ v, v = T'.getD (q - 1) 0 := ⟨_, rfl⟩
      obtain ⟨d, hd⟩ : ∃ d, d = lsb q := ⟨_, rfl⟩
      rw [← hv] at hc hS hR bd
      rw [← hd] at hS hx d1 d2
      obtain ⟨bd1, bd2⟩ := bd
      have hG' : Hid (w.grownBy (wr.setCell ⟨g, q - 1, none⟩ (.int .i64 (v + 1))) (some g)) := grown_trans hG.out hR.2
      have hI' := hR.1
      clear hR hv hd hA hI hG
      go_wp2
      go_roundw
      case rel => exact ⟨q + d, _, by omega, by omega, by go_num, hS, hI', hG'⟩
      case measure => simp [intOf]; omega
    · go_wp2
      go_end0
      exact ⟨rfl, q, T', hA, by omega, hI, hG.out⟩

/-- ZZTallyAdd: add's door. -/
theorem add17 (w : World) (base g n p : Nat) (T : List Int) (hn : n ≤ 65536) (hp : p < n) (hb : ∀ j, 1 ≤ j → j ≤ n → 0 ≤ T.getD (j - 1) 0 ∧ T.getD (j - 1) 0 ≤ 131072) (hI : Ints w base g n T) :
    Calls Try.prog 17 #[.slice (some ⟨g, 0, none⟩) n n, .int .i64 p] w fun e w' => e = .returned (.tuple #[]) ∧ ∃ (q : Nat) (T' : List Int), Adding (p + 1) q T T' ∧ n < q ∧ Ints w' base g n T' ∧ w.grownBy w' (some g) := by
  have hC := add20 w base g n p T hn hp hb hI
  clear hb hI
  go_enter Try.func17, Try.ntmps17
  go_wp2_with (go_at_call 20; refine hC.mono ?_; rintro e w' ⟨rfl, q, T', hA, hq, hI, hG⟩)
  go_end0
  exact ⟨rfl, q, T', hA, hq, hI, hG⟩

set_option maxHeartbeats 1000000 in
/-- below: the sum of the counts ahead of place i. -/
theorem below21 (w : World) (base g n k i : Nat) (c T : List Int) (hn : n ≤ 65536) (hk : k ≤ 131072) (hi : i ≤ n) (hT : Plain.Told n k c T) (hI : Ints w base g n T) :
    Calls Try.prog 21 #[.slice (some ⟨g, 0, none⟩) n n, .int .i64 i] w fun e w' => e = .returned (.int .i64 (pre c i)) ∧ w' = w := by
  go_enter Try.func21, Try.ntmps21
  go_wp2
  go_loop [1, 5] (fun j s => ∃ (q : Nat) (v : Int), q ≤ n ∧ j = .int .i64 q ∧ s = .int .i64 v ∧ 0 ≤ v ∧ v ≤ 131072 ∧ Hid (v + pre c q = pre c i)) (fun j _ => (intOf j).toNat)
  case atStart => exact ⟨i, 0, hi, rfl, rfl, by omega, by omega, Int.zero_add _⟩
  case round =>
    obtain ⟨q, v, hq, rfl, rfl, v1, v2, hV⟩ := hrel
    by_cases h0 : 0 < q
    · have hc := hI.cell (q - 1) (by omega)
      have bd := hT.node_bd q h0 hq
      have hN := hT.node q h0 hq
      have hx := and_neg q h0 (by omega)
      have d1 := lsb_pos q
      have d2 := lsb_le q h0 (by omega)
      obtain ⟨x, hxx⟩ : ∃ x, x = T.getD (q - 1) 0 := ⟨_, rfl⟩
      obtain ⟨d, hd⟩ : ∃ d, d = lsb q := ⟨_, rfl⟩
      rw [← hxx] at hc bd hN
      rw [← hd] at hN hx d1 d2
      obtain ⟨bd1, bd2⟩ := bd
      have pb := hT.pre_bd (q - d)
      have pi := hT.pre_bd i
      have hV' : Hid (v + x + pre c (q - d) = pre c i) := by have := hV.out; show v + x + pre c (q - d) = pre c i; omega
      have v3 : v + x ≤ 131072 := by have := hV'.out; omega
      clear hxx hd hN hV pb pi hI hT
      go_wp2
      go_round
      case rel => exact ⟨q - d, v + x, by omega, by go_num, rfl, by omega, v3, hV'⟩
      case measure => simp [intOf]; omega
    · have e : q = 0 := by omega
      have hR : Hid (v = pre c i) := by have := hV.out; rw [e, pre_zero] at this; show v = pre c i; omega
      clear hV hI hT e
      go_wp2
      go_ret
      exact ⟨by rw [← hR.out]; rfl, rfl⟩

/-- ZZTallyBelow: below's door. -/
theorem below18 (w : World) (base g n k i : Nat) (c T : List Int) (hn : n ≤ 65536) (hk : k ≤ 131072) (hi : i ≤ n) (hT : Plain.Told n k c T) (hI : Ints w base g n T) :
    Calls Try.prog 18 #[.slice (some ⟨g, 0, none⟩) n n, .int .i64 i] w fun e w' => e = .returned (.int .i64 (pre c i)) ∧ w' = w := by
  have hC := below21 w base g n k i c T hn hk hi hT hI
  clear hI hT
  go_enter Try.func18, Try.ntmps18
  go_wp2_with (go_at_call 21; refine hC.mono ?_; rintro e w' ⟨rfl, rfl⟩)
  go_ret
  exact ⟨rfl, rfl⟩

end Go.Proofs.Qxb6001738a
