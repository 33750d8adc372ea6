/-
  The walk of FnTallyAddMatchesCounts. By an AI agent.
-/
import Derived.Test.Qxb6001738aClone
import Derived.Test.Qxb6001738aTally
namespace Go.Proofs.Qxb6001738a
open Go.RowKit Plain

/-- zzBytes_..: the total length is within the bound. -/
theorem bytes15 (m : Int) (a : Option Addr) (len cap : Nat) (w : World) (hs : len ≤ 1048576) :
    Calls Try.prog 15 #[.int .i64 m, .slice a len cap] w fun e w' => e = .returned (.bool true) ∧ w' = w := by
  go_enter Try.func15, Try.ntmps15
  go_wp2
  go_ret
  exact ⟨rfl, rfl⟩
theorem bytes15_no (m : Int) (a : Option Addr) (len cap : Nat) (w : World) (hs : ¬ len ≤ 1048576) (hm : len ≤ maxLen) :
    Calls Try.prog 15 #[.int .i64 m, .slice a len cap] w fun e w' => e = .returned (.bool false) ∧ w' = w := by
  unfold maxLen at hm
  go_enter Try.func15, Try.ntmps15
  go_wp2
  go_ret
  exact ⟨rfl, rfl⟩

theorem law6_long (m : Int) (a : Option Addr) (len cap : Nat) (w : World) (hs : ¬ len ≤ 1048576) (hm : len ≤ maxLen) :
    Calls Try.prog 6 #[.int .i64 m, .slice a len cap] w fun e w' => e = .returned (.bool true) ∧ w' = w := by
  go_enter Try.func6, Try.ntmps6
  go_wp2_with (go_at_call 15; refine (bytes15_no _ _ _ _ _ hs hm).mono ?_; rintro e w' ⟨rfl, rfl⟩)
  go_ret
  exact ⟨rfl, rfl⟩
theorem law6_more (m : Int) (a : Option Addr) (len cap : Nat) (w : World) (hs : len ≤ 1048576) (hm : 131072 < len) :
    Calls Try.prog 6 #[.int .i64 m, .slice a len cap] w fun e w' => e = .returned (.bool true) ∧ w' = w := by
  go_enter Try.func6, Try.ntmps6
  go_wp2_with (go_at_call 15; refine (bytes15 _ _ _ _ _ hs).mono ?_; rintro e w' ⟨rfl, rfl⟩)
  go_ret
  exact ⟨rfl, rfl⟩
theorem law6_neg (m : Int) (a : Option Addr) (len cap : Nat) (w : World) (hs : len ≤ 131072) (hm : m < 0) :
    Calls Try.prog 6 #[.int .i64 m, .slice a len cap] w fun e w' => e = .returned (.bool true) ∧ w' = w := by
  go_enter Try.func6, Try.ntmps6
  go_wp2_with (go_at_call 15; refine (bytes15 _ _ _ _ _ (by omega)).mono ?_; rintro e w' ⟨rfl, rfl⟩)
  go_ret
  exact ⟨rfl, rfl⟩
theorem law6_big (m : Int) (a : Option Addr) (len cap : Nat) (w : World) (hs : len ≤ 131072) (hm : 65536 < m) :
    Calls Try.prog 6 #[.int .i64 m, .slice a len cap] w fun e w' => e = .returned (.bool true) ∧ w' = w := by
  go_enter Try.func6, Try.ntmps6
  go_wp2_with (go_at_call 15; refine (bytes15 _ _ _ _ _ (by omega)).mono ?_; rintro e w' ⟨rfl, rfl⟩)
  go_ret
  exact ⟨rfl, rfl⟩

/-- What is known of the copy of the places: its cells, where it is not empty. -/
structure Copied (w w' : World) (ao : Option Addr) (len : Nat) (zs : List Int) : Prop where
  place : 0 < len → ao = some ⟨w.heap.size, 0, none⟩
  cell : ∀ j, j < len → w'.cell? ⟨w.heap.size, j, none⟩ = some (.int .i64 (zs.getD j 0))
  below : Below w.heap.size w w'

theorem clone16_any (w : World) (a : Option Addr) (len cap : Nat) (zs : List Int) (hs : len ≤ 131072)
    (h : (a = none ∧ len = 0 ∧ cap = 0 ∧ zs = []) ∨ ∃ x, a = some x ∧ len ≤ cap ∧ zs.length = cap ∧ ∀ i, i < zs.length → w.cell? (x.add i) = some (.int .i64 (zs.getD i 0))) :
    Calls Try.prog 16 #[.slice a len cap] w fun e w' => ∃ ao, e = .returned (.slice ao len len) ∧ Copied w w' ao len zs := by
  rcases h with ⟨rfl, rfl, rfl, rfl⟩ | ⟨x, rfl, hl, hz, hc⟩
  · refine (clone16_nil w).mono ?_
    rintro e w' ⟨rfl, rfl⟩
    exact ⟨none, rfl, fun h => absurd h (Nat.lt_irrefl _), fun j h => absurd h (Nat.not_lt_zero _), Below.refl _ _⟩
  · refine (clone16 w x len cap zs hl hz (by omega) hc).mono ?_
    rintro e w' ⟨rfl, ho, hb⟩
    refine ⟨_, rfl, fun _ => rfl, fun j hj => ?_, hb⟩
    have hI : Ints w' w.heap.size w.heap.size len (zs.take len) := ⟨by rw [List.length_take]; omega, ho⟩
    rw [hI.cell j hj, List.getD_eq_getElem?_getD, List.getElem?_take, if_pos hj, List.getD_eq_getElem?_getD]

/-- Behind k places: a tree in block gt that tells the counts in block gc; what was there stands. -/
def St (w1 wr : World) (base gt gc n k : Nat) (c t : List Int) : Prop := Plain.Told n k c t ∧ Ints wr base gt n t ∧ Ints wr base gc n c ∧ Below w1.heap.size w1 wr

theorem st_start {w1 w2 w3 : World} {base n : Nat} (h2 : w2.ownsRow base 3 1 (.slice (some ⟨w1.heap.size, 0, none⟩) n n) n (madeCells (Value.int .i64 0).cells (n * 1)).toList)
    (g2 : w1.grownBy w2 none) (h3 : w3.ownsRow base 3 1 (.slice (some ⟨w2.heap.size, 0, none⟩) n n) n (madeCells (Value.int .i64 0).cells (n * 1)).toList) (g3 : w2.grownBy w3 none) :
    St w1 w3 base w1.heap.size w2.heap.size n 0 (List.replicate n 0) (List.replicate n 0) := by
  have e : (madeCells (Value.int .i64 0).cells (n * 1)).toList = (List.replicate n (0 : Int)).map (Value.int .i64) := by
    show (madeCells #[Value.int .i64 0] (n * 1)).toList = _
    rw [toList_madeCells_one]
    simp
  rw [e] at h2 h3
  have i2 : Ints w2 base w1.heap.size n (List.replicate n 0) := ⟨by simp, h2⟩
  have i3 : Ints w3 base w2.heap.size n (List.replicate n 0) := ⟨by simp, h3⟩
  have b2 : Below w1.heap.size w1 w2 := (Below.refl _ _).grown g2 (Nat.le_refl _) (by simp)
  exact ⟨Plain.Told.zero n, i2.kept g3 (by simp), i3, b2.grown g3 g2.size (by simp)⟩

theorem St.weak {w1 wr : World} {base gt gc n k : Nat} {c t : List Int} (h : St w1 wr base gt gc n k c t) : St w1 wr base gt gc n (k + 1) c t := ⟨h.1.weak, h.2⟩

theorem St.add {w1 wr w' : World} {base gt gc n k p q : Nat} {c t t' : List Int} (h : St w1 wr base gt gc n k c t) (hne : gt ≠ gc) (h1 : w1.heap.size ≤ gt) (h2 : w1.heap.size ≤ gc) (hp : p < n) (hn : n ≤ 65536)
    (hA : Adding (p + 1) q t t') (hq : n < q) (hI : Ints w' base gt n t') (hG : wr.grownBy w' (some gt)) :
    St w1 (w'.setCell ⟨gc, p, none⟩ (.int .i64 (c.getD p 0 + 1))) base gt gc n (k + 1) (c.set p (c.getD p 0 + 1)) t' := by
  obtain ⟨hT, hIt, hIc, hB⟩ := h
  have hIc' := hIc.kept hG (by intro e; exact hne (Option.some.inj e).symm)
  have S := hIc'.store p (c.getD p 0 + 1)
  refine ⟨hT.add hp hn hA hq, hI.kept S.2 (by intro e; exact hne (Option.some.inj e)), S.1, ?_⟩
  exact (hB.grown hG hB.size (by intro j e; rw [← Option.some.inj e]; exact h1)).setCell h2 _

theorem pre_end {n k : Nat} {c t : List Int} (h : Plain.Told n k c t) : pre c (n + 1) = pre c n := by
  rw [pre_all c (n + 1) (by rw [h.1]; omega), pre_all c n (by rw [h.1]; omega)]

set_option maxHeartbeats 2000000 in
theorem law6_core (n : Nat) (a : Option Addr) (len cap : Nat) (zs : List Int) (w : World) (hn : n ≤ 65536) (hs : len ≤ 131072)
    (h : (a = none ∧ len = 0 ∧ cap = 0 ∧ zs = []) ∨ ∃ x, a = some x ∧ len ≤ cap ∧ zs.length = cap ∧ ∀ i, i < zs.length → w.cell? (x.add i) = some (.int .i64 (zs.getD i 0))) :
    Calls Try.prog 6 #[.int .i64 n, .slice a len cap] w fun e w' => e = .returned (.bool true) ∧ Below w.heap.size w w' := by
  obtain ⟨i0, hi, hz0, hz1, hz2⟩ := info_parts Try.info3
  have hd0 : decide ((n : Int) < 0) = false := by rw [decide_eq_false_iff_not]; omega
  have hd1 : decide (65536 < (n : Int)) = false := by rw [decide_eq_false_iff_not]; omega
  have hd2 : decide (131072 < (len : Int)) = false := by rw [decide_eq_false_iff_not]; omega
  have hB := bytes15 n a len cap w (by omega)
  have hC := clone16_any w a len cap zs hs h
  clear h
  go_enter Try.func6, Try.ntmps6
  go_wp2_with (first | (go_at_call 15; refine hB.mono ?_; rintro e w' ⟨rfl, hw⟩; obtain rfl := hw.symm) | (go_at_call 16; refine hC.mono ?_; rintro e w1 ⟨ao, rfl, hcp⟩) | (at_make; refine wpList_make_full _ rfl (.tmp 26) (.tmp 26) 28 rfl w.heap.size 3 i0 (.int .i64 0) 1 Try.underlying28 hi hz0 hz1 _ _ _ _ n rfl rfl rfl rfl (by rw [hz2]; omega) (by unfold maxLen; omega) hcp.below.size ?_; intro w2 hown2 hgrow2) | (at_make; refine wpList_make_full _ rfl (.tmp 28) (.tmp 28) 28 rfl w.heap.size 3 i0 (.int .i64 0) 1 Try.underlying28 hi hz0 hz1 _ _ _ _ n rfl rfl rfl rfl (by rw [hz2]; omega) (by unfold maxLen; omega) (Nat.le_trans hcp.below.size hgrow2.size) ?_; intro w3 hown3 hgrow3))
  have hS := st_start hown2 hgrow2 hown3 hgrow3
  have hgt : w1.heap.size < w2.heap.size := (hown2.lt _ rfl).2
  have hne : w1.heap.size ≠ w2.heap.size := by omega
  have HN : Hid (w1.heap.size ≠ w2.heap.size) := hne
  have HG : Hid (w1.heap.size ≤ w2.heap.size) := Nat.le_of_lt hgt
  clear hB hC hown2 hown3 hgrow2 hgrow3 hi hz0 hz1 hz2 hgt hne
  go_loopw [7] (fun i wr => ∃ (k : Nat) (c t : List Int), k ≤ len ∧ i = .int .i64 k ∧ St w1 wr w.heap.size w1.heap.size w2.heap.size n k c t) (fun i _ => len - (intOf i).toNat)
  case atStart => exact ⟨0, _, _, Nat.zero_le _, rfl, hS⟩
  case round =>
    clear hS
    obtain ⟨k, c, t, hk, rfl, hS⟩ := hrel
    by_cases hlt : k < len
    · obtain rfl : ao = some ⟨w.heap.size, 0, none⟩ := hcp.place (by omega)
      have hc0 : wr.cell? ⟨w.heap.size, k, none⟩ = some (.int .i64 (zs.getD k 0)) := cell_later hS.2.2.2 (hcp.cell k hlt)
      obtain ⟨z, hc⟩ : ∃ z, wr.cell? ⟨w.heap.size, k, none⟩ = some (.int .i64 z) := ⟨_, hc0⟩
      clear hc0
      by_cases h1 : z < 0
      · have hS' := hS.weak
        clear hS
        go_wp2
        go_roundw
        case rel => exact ⟨k + 1, c, t, by omega, by go_num, hS'⟩
        case measure => simp [intOf]; omega
      · by_cases h2 : (n : Int) ≤ z
        · have hS' := hS.weak
          clear hS
          go_wp2
          go_roundw
          case rel => exact ⟨k + 1, c, t, by omega, by go_num, hS'⟩
          case measure => simp [intOf]; omega
        · obtain ⟨p, rfl⟩ : ∃ p : Nat, z = (p : Int) := ⟨z.toNat, by omega⟩
          have hp : p < n := by omega
          have hC17 := add17 wr w.heap.size w1.heap.size n p t hn hp (fun j j1 j2 => by have := hS.1.node_bd j j1 j2; omega) hS.2.1
          have cb := hS.1.count_bd p
          have hkc := fun (w' : World) (hG : wr.grownBy w' (some w1.heap.size)) => (hS.2.2.1.kept hG (by intro e; exact HN.out (Option.some.inj e).symm)).cell p hp
          have hkf := fun (w' : World) (hG : wr.grownBy w' (some w1.heap.size)) => (hS.2.2.1.kept hG (by intro e; exact HN.out (Option.some.inj e).symm)).free p
          have hadd := fun (w' : World) (q : Nat) (t' : List Int) hA hq hI hG => hS.add (w' := w') (q := q) (t' := t') HN.out (Nat.le_refl _) HG.out hp hn hA hq hI hG
          obtain ⟨v, hv⟩ : ∃ v, v = c.getD p 0 := ⟨_, rfl⟩
          rw [← hv] at cb hkc hadd
          obtain ⟨cb1, cb2⟩ := cb
          have KC : Hid (∀ w', wr.grownBy w' (some w1.heap.size) → w'.cell? ⟨w2.heap.size, p, none⟩ = some (.int .i64 v)) := hkc
          have KF : Hid (∀ w', wr.grownBy w' (some w1.heap.size) → w'.frozen? ⟨w2.heap.size, p, none⟩ = false) := hkf
          have KA : Hid (∀ (w' : World) (q : Nat) (t' : List Int), Adding (p + 1) q t t' → n < q → Ints w' w.heap.size w1.heap.size n t' → wr.grownBy w' (some w1.heap.size) → St w1 (w'.setCell ⟨w2.heap.size, p, none⟩ (.int .i64 (v + 1))) w.heap.size w1.heap.size w2.heap.size n (k + 1) (c.set p (v + 1)) t') := hadd
          clear hkc hkf hadd hv hS
          go_wp2_with (go_at_call 17; refine hC17.mono ?_; rintro e w' ⟨rfl, q, t', hA, hq, hI, hG⟩; have kc := KC.out w' hG; have kf := KF.out w' hG; have ka := KA.out w' q t' hA hq hI hG)
          go_roundw
          case rel => exact ⟨k + 1, _, _, by omega, by go_num, ka⟩
          case measure => simp [intOf]; omega
    · obtain rfl : k = len := by omega
      have hT : Hid (Plain.Told n k c t) := hS.1
      have hIt : Hid (Ints wr w.heap.size w1.heap.size n t) := hS.2.1
      have hIc : Hid (Ints wr w.heap.size w2.heap.size n c) := hS.2.2.1
      have hBw : Hid (Below w.heap.size w wr) := hcp.below.trans (hS.2.2.2.mono hcp.below.size)
      clear hS hcp
      go_wp2
      go_loop [9, 10] (fun s i => ∃ (q : Nat) (v : Int), q ≤ n + 1 ∧ i = .int .i64 q ∧ s = .int .i64 v ∧ 0 ≤ v ∧ v ≤ 131072 ∧ Hid (v = pre c q)) (fun _ i => n + 1 - (intOf i).toNat)
      case atStart => exact ⟨0, 0, Nat.zero_le _, rfl, rfl, by omega, by omega, (pre_zero c).symm⟩
      case round =>
        obtain ⟨q, v, hq, rfl, rfl, v1, v2, hV⟩ := hrel
        by_cases hqn : q ≤ n
        · have hC18 := below18 wr w.heap.size w1.heap.size n k q c t hn hs hqn hT.out hIt.out
          rw [← hV.out] at hC18
          by_cases hqlt : q < n
          · have hcc := hIc.out.cell q hqlt
            have pb := hT.out.pre_bd (q + 1)
            have cb := hT.out.count_bd q
            rw [pre_succ, ← hV.out] at pb
            have hV' := pre_succ c q
            rw [← hV.out] at hV'
            obtain ⟨x, hx⟩ : ∃ x, x = c.getD q 0 := ⟨_, rfl⟩
            rw [← hx] at hcc pb cb hV'
            obtain ⟨pb1, pb2⟩ := pb
            obtain ⟨cb1, cb2⟩ := cb
            have HV : Hid (v + x = pre c (q + 1)) := hV'.symm
            clear hV' hx hV
            go_wp2_with (go_at_call 18; refine hC18.mono ?_; rintro e w' ⟨rfl, rfl⟩)
            go_round
            case rel => exact ⟨q + 1, v + x, by omega, by go_num, rfl, by omega, by omega, HV⟩
            case measure => simp [intOf]; omega
          · have e : q = n := by omega
            have HV : Hid (v = pre c (q + 1)) := by rw [e]; exact (hV.out.trans (by rw [e])).trans (pre_end hT.out).symm
            clear hV e
            go_wp2_with (go_at_call 18; refine hC18.mono ?_; rintro e w' ⟨rfl, rfl⟩)
            go_round
            case rel => exact ⟨q + 1, v, by omega, by go_num, rfl, by omega, by omega, HV⟩
            case measure => simp [intOf]; omega
        · go_wp2
          go_ret
          exact ⟨rfl, hBw.out⟩

end Go.Proofs.Qxb6001738a
