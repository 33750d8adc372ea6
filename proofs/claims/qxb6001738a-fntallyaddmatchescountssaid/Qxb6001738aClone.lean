/-
  The walks of cloneBytes and cloneInts: a fresh copy. By an AI agent.
-/
import Derived.Test.Qxb6001738aRows
import Derived.Test.Qxb6001738aPlain
import Derived.WalkKit
import Derived.WalkSpells
import Derived.Outline
import Derived.OpenShut
namespace Go.Proofs.Qxb6001738a
open Go.RowKit Plain

/-- A copy that has come to place k: the first k numbers, then noughts. -/
def cp (kd : IntKind) (zs : List Int) (len k : Nat) : List Value := (zs.take k).map (Value.int kd) ++ List.replicate (len - k) (.int kd 0)

theorem cp_zero (kd : IntKind) (zs : List Int) (len : Nat) : (madeCells (Value.int kd 0).cells (len * 1)).toList = cp kd zs len 0 := by
  show (madeCells #[Value.int kd 0] (len * 1)).toList = _
  rw [toList_madeCells_one]
  simp [cp]
theorem cp_full (kd : IntKind) (zs : List Int) (len : Nat) : cp kd zs len len = (zs.take len).map (Value.int kd) := by simp [cp]
theorem cp_set (kd : IntKind) (zs : List Int) (len k : Nat) (hk : k < len) (hz : len ≤ zs.length) : (cp kd zs len k).set k (.int kd (zs.getD k 0)) = cp kd zs len (k + 1) := by
  have hl : ((zs.take k).map (Value.int kd)).length = k := by simp; omega
  have e : len - k = (len - (k + 1)) + 1 := by omega
  unfold cp
  rw [List.set_append_right _ _ (by omega), hl, Nat.sub_self, e, List.replicate_succ, List.set_cons_zero, List.take_succ_eq_append_getElem (by omega : k < zs.length), List.map_append, List.append_assoc]
  have g : zs.getD k 0 = zs[k] := by simp [show k < zs.length by omega]
  rw [g]
  rfl
theorem cp_get (kd : IntKind) (zs : List Int) (len k : Nat) (hk : k < len) (hz : len ≤ zs.length) : (cp kd zs len k)[k]? = some (.int kd 0) := by
  have hl : ((zs.take k).map (Value.int kd)).length = k := by simp; omega
  have e : len - k = (len - (k + 1)) + 1 := by omega
  unfold cp
  rw [List.getElem?_append_right (by omega), hl, Nat.sub_self, e, List.replicate_succ]
  rfl

theorem Try.info5 : (Try.prog.info? 5).map (fun i => (i.zero, i.size, i.bytes)) = some (some (.int .u8 0), 1, 1) := by kernel_rfl
theorem Try.info3 : (Try.prog.info? 3).map (fun i => (i.zero, i.size, i.bytes)) = some (some (.int .i64 0), 1, 8) := by kernel_rfl

set_option maxHeartbeats 1000000 in
/-- cloneBytes of a slice that is not nil. -/
theorem clone8 (w : World) (x : Addr) (len cap : Nat) (zs : List Int) (hl : len ≤ cap) (hcap : zs.length = cap) (hs : len ≤ 1048576)
    (hcell : ∀ i, i < zs.length → w.cell? (x.add i) = some (.int .u8 (zs.getD i 0))) :
    Calls Try.prog 8 #[.slice (some x) len cap] w fun e w' => e = .returned (.slice (some ⟨w.heap.size, 0, none⟩) len len) ∧
      w'.ownsRow w.heap.size 5 1 (.slice (some ⟨w.heap.size, 0, none⟩) len len) len ((zs.take len).map (Value.int .u8)) ∧ Below w.heap.size w w' := by
  obtain ⟨i0, hi, hz0, hz1, hz2⟩ := info_parts Try.info5
  have q22 : ∀ (w : World) (a : Option Addr) (n c n' c' : Nat), (binOp .eql 22 (.slice a n c) (.slice none n' c')).run Try.prog w = .ok (.bool a.isNone) w := fun w a n c n' c' => Lib.run_eql_slice_nil w _ _ a n c n' c' Try.underlying22
  go_enter Try.func8, Try.ntmps8
  go_wp2_with (at_make; refine wpList_make_full _ rfl _ _ 22 rfl w.heap.size 5 i0 (.int .u8 0) 1 Try.underlying22 hi hz0 hz1 _ _ _ _ len rfl rfl rfl rfl (by rw [hz2]; omega) (by unfold maxLen; omega) (Nat.le_refl _) ?_; intro w1 hown hgrow)
  rw [cp_zero .u8 zs len] at hown
  have hbel : Below w.heap.size w w1 := (Below.refl _ _).grown hgrow (Nat.le_refl _) (by simp)
  clear hgrow
  go_loopw [4] (fun i wr => ∃ k : Nat, k ≤ len ∧ i = .int .i64 k ∧ wr.ownsRow w.heap.size 5 1 (.slice (some ⟨w.heap.size, 0, none⟩) len len) len (cp .u8 zs len k) ∧ Below w.heap.size w wr) (fun i _ => len - (intOf i).toNat)
  case atStart => exact ⟨0, Nat.zero_le _, rfl, hown, hbel⟩
  case round =>
    clear hown hbel
    obtain ⟨k, hk, rfl, hown, hbel⟩ := hrel
    by_cases hlt : k < len
    · obtain ⟨b, off, rfl, hc⟩ := ints_at hcell (by omega)
      have hck : wr.cell? ⟨b, off + k, none⟩ = some (.int .u8 (zs.getD k 0)) := cell_later hbel (hc k (by omega))
      have hcd : wr.cell? ⟨w.heap.size, k, none⟩ = some (.int .u8 0) := by rw [hown.cellAt k (by omega)]; exact cp_get _ _ _ _ hlt (by omega)
      have hfd : wr.frozen? ⟨w.heap.size, k, none⟩ = false := hown.frozenAt k
      have R := hown.stored k (.int .u8 (zs.getD k 0))
      rw [cp_set .u8 zs len k hlt (by omega)] at R
      have hb' : Below w.heap.size w (wr.setCell ⟨w.heap.size, k, none⟩ (.int .u8 (zs.getD k 0))) := hbel.setCell (Nat.le_refl _) _
      have R1 := R.1
      clear R hown hbel hcell hc
      go_wp2
      go_roundw
      case rel => exact ⟨k + 1, by omega, by go_num, R1, hb'⟩
      case measure => simp [intOf]; omega
    · have e : k = len := by omega
      subst e
      rw [cp_full] at hown
      go_wp2
      go_ret
      exact ⟨rfl, hown, hbel⟩

theorem clone8_nil (w : World) :
    Calls Try.prog 8 #[.slice none 0 0] w fun e w' => e = .returned (.slice none 0 0) ∧ w' = w := by
  have q22 : ∀ (w : World) (a : Option Addr) (n c n' c' : Nat), (binOp .eql 22 (.slice a n c) (.slice none n' c')).run Try.prog w = .ok (.bool a.isNone) w := fun w a n c n' c' => Lib.run_eql_slice_nil w _ _ a n c n' c' Try.underlying22
  go_enter Try.func8, Try.ntmps8
  go_wp2
  go_ret
  exact ⟨rfl, rfl⟩

set_option maxHeartbeats 1000000 in
/-- cloneInts of a slice that is not nil. -/
theorem clone16 (w : World) (x : Addr) (len cap : Nat) (zs : List Int) (hl : len ≤ cap) (hcap : zs.length = cap) (hs : len ≤ 1048576)
    (hcell : ∀ i, i < zs.length → w.cell? (x.add i) = some (.int .i64 (zs.getD i 0))) :
    Calls Try.prog 16 #[.slice (some x) len cap] w fun e w' => e = .returned (.slice (some ⟨w.heap.size, 0, none⟩) len len) ∧
      w'.ownsRow w.heap.size 3 1 (.slice (some ⟨w.heap.size, 0, none⟩) len len) len ((zs.take len).map (Value.int .i64)) ∧ Below w.heap.size w w' := by
  obtain ⟨i0, hi, hz0, hz1, hz2⟩ := info_parts Try.info3
  have q28 : ∀ (w : World) (a : Option Addr) (n c n' c' : Nat), (binOp .eql 28 (.slice a n c) (.slice none n' c')).run Try.prog w = .ok (.bool a.isNone) w := fun w a n c n' c' => Lib.run_eql_slice_nil w _ _ a n c n' c' Try.underlying28
  go_enter Try.func16, Try.ntmps16
  go_wp2_with (at_make; refine wpList_make_full _ rfl _ _ 28 rfl w.heap.size 3 i0 (.int .i64 0) 1 Try.underlying28 hi hz0 hz1 _ _ _ _ len rfl rfl rfl rfl (by rw [hz2]; omega) (by unfold maxLen; omega) (Nat.le_refl _) ?_; intro w1 hown hgrow)
  rw [cp_zero .i64 zs len] at hown
  have hbel : Below w.heap.size w w1 := (Below.refl _ _).grown hgrow (Nat.le_refl _) (by simp)
  clear hgrow
  go_loopw [4] (fun i wr => ∃ k : Nat, k ≤ len ∧ i = .int .i64 k ∧ wr.ownsRow w.heap.size 3 1 (.slice (some ⟨w.heap.size, 0, none⟩) len len) len (cp .i64 zs len k) ∧ Below w.heap.size w wr) (fun i _ => len - (intOf i).toNat)
  case atStart => exact ⟨0, Nat.zero_le _, rfl, hown, hbel⟩
  case round =>
    clear hown hbel
    obtain ⟨k, hk, rfl, hown, hbel⟩ := hrel
    by_cases hlt : k < len
    · obtain ⟨b, off, rfl, hc⟩ := ints_at hcell (by omega)
      have hck : wr.cell? ⟨b, off + k, none⟩ = some (.int .i64 (zs.getD k 0)) := cell_later hbel (hc k (by omega))
      have hcd : wr.cell? ⟨w.heap.size, k, none⟩ = some (.int .i64 0) := by rw [hown.cellAt k (by omega)]; exact cp_get _ _ _ _ hlt (by omega)
      have hfd : wr.frozen? ⟨w.heap.size, k, none⟩ = false := hown.frozenAt k
      have R := hown.stored k (.int .i64 (zs.getD k 0))
      rw [cp_set .i64 zs len k hlt (by omega)] at R
      have hb' : Below w.heap.size w (wr.setCell ⟨w.heap.size, k, none⟩ (.int .i64 (zs.getD k 0))) := hbel.setCell (Nat.le_refl _) _
      have R1 := R.1
      clear R hown hbel hcell hc
      go_wp2
      go_roundw
      case rel => exact ⟨k + 1, by omega, by go_num, R1, hb'⟩
      case measure => simp [intOf]; omega
    · have e : k = len := by omega
      subst e
      rw [cp_full] at hown
      go_wp2
      go_ret
      exact ⟨rfl, hown, hbel⟩

theorem clone16_nil (w : World) :
    Calls Try.prog 16 #[.slice none 0 0] w fun e w' => e = .returned (.slice none 0 0) ∧ w' = w := by
  have q28 : ∀ (w : World) (a : Option Addr) (n c n' c' : Nat), (binOp .eql 28 (.slice a n c) (.slice none n' c')).run Try.prog w = .ok (.bool a.isNone) w := fun w a n c n' c' => Lib.run_eql_slice_nil w _ _ a n c n' c' Try.underlying28
  go_enter Try.func16, Try.ntmps16
  go_wp2
  go_ret
  exact ⟨rfl, rfl⟩

end Go.Proofs.Qxb6001738a
