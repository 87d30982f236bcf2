/-
  zzCopyBools, zzCopyInt64, zzCopyInts: a fresh row with the same values.
-/
import Derived.Test.Qxb6604623aLeaf
import Derived.Deep.OwnRows
import Derived.Lib.SliceRun
namespace Go.Proofs.Qxb6604623a
open Go.RowKit

/-- A row whose first k cells are f's, the rest z. -/
def part (z : Value) (f : Nat → Value) (k n : Nat) : Array Value := ((List.range n).map fun i => if i < k then f i else z).toArray
def full (f : Nat → Value) (n : Nat) : Array Value := ((List.range n).map f).toArray
theorem part_get (z : Value) (f : Nat → Value) (k n i : Nat) : (part z f k n)[i]? = if i < n then some (if i < k then f i else z) else none := by
  unfold part
  by_cases h : i < n <;> simp [h]
theorem full_get (f : Nat → Value) (n i : Nat) : (full f n)[i]? = if i < n then some (f i) else none := by
  unfold full
  by_cases h : i < n <;> simp [h]
theorem full_size (f : Nat → Value) (n : Nat) : (full f n).size = n := by simp [full]
theorem part_zero (z : Value) (f : Nat → Value) (n : Nat) : madeCells #[z] n = part z f 0 n := by
  apply Array.ext_getElem?
  intro i
  rw [part_get]
  by_cases h : i < n <;> simp [madeCells, h, Nat.mod_one]
theorem part_step (z : Value) (f : Nat → Value) (k n : Nat) : (part z f k n).setIfInBounds k (f k) = part z f (k + 1) n := by
  apply Array.ext_getElem?
  intro i
  rw [Array.getElem?_setIfInBounds, part_get, part_get]
  have hs : (part z f k n).size = n := by simp [part]
  rw [hs]
  by_cases h : k = i
  · subst h
    by_cases h2 : k < n <;> simp [h2]
  · by_cases h2 : i < n
    · by_cases h3 : i < k
      · simp [h, h2, h3, Nat.lt_succ_of_lt h3]
      · have : ¬ i < k + 1 := by omega
        simp [h, h2, h3, this]
    · simp [h, h2]
theorem part_full (z : Value) (f : Nat → Value) (n : Nat) : part z f n n = full f n := by
  apply Array.ext_getElem?
  intro i
  rw [part_get, full_get]
  by_cases h : i < n <;> simp [h]

theorem info2 : (Try.prog.info? 2).map (fun i => (i.zero, i.size, i.bytes)) = some (some (.int .i64 0), 1, 8) := by kernel_rfl
theorem info3 : (Try.prog.info? 3).map (fun i => (i.zero, i.size, i.bytes)) = some (some (.int .i64 0), 1, 8) := by kernel_rfl
theorem info28 : (Try.prog.info? 28).map (fun i => (i.zero, i.size, i.bytes)) = some (some (.pointer none), 1, 8) := by kernel_rfl
theorem info4 : (Try.prog.info? 4).map (fun i => (i.zero, i.size, i.bytes)) = some (some (.bool false), 1, 1) := by kernel_rfl


set_option maxHeartbeats 400000 in
theorem copyB_nil (w : World) : Calls Try.prog 16 #[.slice none 0 0] w fun e w' => e = .returned (.slice none 0 0) ∧ w' = w := by
  have hn := fun (w : World) => Lib.run_eql_slice_nil (P := Try.prog) w 39 4 none 0 0 0 0 Try.underlying39
  go_enter Try.func16, Try.ntmps16
  go_wp2
  go_ret
  exact ⟨rfl, rfl⟩

set_option maxHeartbeats 400000 in
theorem copyB_some (b off : Nat) (s : Option Nat) (len cap : Nat) (B : Nat → Bool) (w : World) (hlen : len ≤ 65536) (hs : 0 < len → s = none) (hc : ∀ i, i < len → w.cell? ⟨b, off + i, none⟩ = some (.bool (B i))) :
    Calls Try.prog 16 #[.slice (some ⟨b, off, s⟩) len cap] w fun e w' => e = .returned (.slice (some ⟨w.heap.size, 0, none⟩) len len) ∧ w' = w.alloc (.cells (full (fun i => .bool (B i)) len) 4) := by
  have hn := fun (w : World) => Lib.run_eql_slice_nil (P := Try.prog) w 39 4 (some ⟨b, off, s⟩) len cap 0 0 Try.underlying39
  have hmk := fun (w : World) => run_make_row' (P := Try.prog) 39 4 (.bool false) 1 Try.underlying39 info4 rfl .i64 .i64 len (by omega) (by omega) w
  go_enter Try.func16, Try.ntmps16
  go_wp2_with fail
  go_loopw [4] (fun i wr => ∃ k : Nat, k ≤ len ∧ i = .int .i64 k ∧ wr = w.alloc (.cells (part (.bool false) (fun i => .bool (B i)) k len) 4)) (fun i _ => len - (intOf i).toNat)
  case atStart => exact ⟨0, Nat.zero_le _, rfl, by rw [part_zero (.bool false) (fun i => .bool (B i)) len]⟩
  case round =>
    obtain ⟨k, hk, rfl, rfl⟩ := hrel
    by_cases hlt : k < len
    · have hs0 := hs (by omega)
      subst hs0
      have hck := hc k hlt
      have hbl : b < w.heap.size := block_lt_of_cell hck
      have hpk : (part (.bool false) (fun i => .bool (B i)) k len)[k]? = some (.bool false) := by rw [part_get]; simp [hlt]
      have hst : (part (.bool false) (fun i => .bool (B i)) k len).setIfInBounds k (.bool (B k)) = part (.bool false) (fun i => .bool (B i)) (k + 1) len := part_step (.bool false) (fun i => .bool (B i)) k len
      clear hc
      go_wp2
      go_roundw
      case rel => exact ⟨k + 1, by omega, by go_num, rfl⟩
      case measure => simp [intOf]; omega
    · have e : k = len := by omega
      subst e
      go_wp2
      go_ret
      exact ⟨rfl, by rw [part_full]⟩

set_option maxHeartbeats 400000 in
theorem copyL_nil (w : World) : Calls Try.prog 20 #[.slice none 0 0] w fun e w' => e = .returned (.slice none 0 0) ∧ w' = w := by
  have hn := fun (w : World) => Lib.run_eql_slice_nil (P := Try.prog) w 43 2 none 0 0 0 0 Try.underlying43
  go_enter Try.func20, Try.ntmps20
  go_wp2
  go_ret
  exact ⟨rfl, rfl⟩

set_option maxHeartbeats 400000 in
theorem copyL_some (b off : Nat) (s : Option Nat) (len cap : Nat) (B : Nat → Int) (w : World) (hlen : len ≤ 65536) (hs : 0 < len → s = none) (hc : ∀ i, i < len → w.cell? ⟨b, off + i, none⟩ = some (.int .i64 (B i))) :
    Calls Try.prog 20 #[.slice (some ⟨b, off, s⟩) len cap] w fun e w' => e = .returned (.slice (some ⟨w.heap.size, 0, none⟩) len len) ∧ w' = w.alloc (.cells (full (fun i => .int .i64 (B i)) len) 2) := by
  have hn := fun (w : World) => Lib.run_eql_slice_nil (P := Try.prog) w 43 2 (some ⟨b, off, s⟩) len cap 0 0 Try.underlying43
  have hmk := fun (w : World) => run_make_row' (P := Try.prog) 43 2 (.int .i64 0) 8 Try.underlying43 info2 rfl .i64 .i64 len (by omega) (by omega) w
  go_enter Try.func20, Try.ntmps20
  go_wp2_with fail
  go_loopw [4] (fun i wr => ∃ k : Nat, k ≤ len ∧ i = .int .i64 k ∧ wr = w.alloc (.cells (part (.int .i64 0) (fun i => .int .i64 (B i)) k len) 2)) (fun i _ => len - (intOf i).toNat)
  case atStart => exact ⟨0, Nat.zero_le _, rfl, by rw [part_zero (.int .i64 0) (fun i => .int .i64 (B i)) len]⟩
  case round =>
    obtain ⟨k, hk, rfl, rfl⟩ := hrel
    by_cases hlt : k < len
    · have hs0 := hs (by omega)
      subst hs0
      have hck := hc k hlt
      have hbl : b < w.heap.size := block_lt_of_cell hck
      have hpk : (part (.int .i64 0) (fun i => .int .i64 (B i)) k len)[k]? = some (.int .i64 0) := by rw [part_get]; simp [hlt]
      have hst : (part (.int .i64 0) (fun i => .int .i64 (B i)) k len).setIfInBounds k (.int .i64 (B k)) = part (.int .i64 0) (fun i => .int .i64 (B i)) (k + 1) len := part_step (.int .i64 0) (fun i => .int .i64 (B i)) k len
      clear hc
      go_wp2
      go_roundw
      case rel => exact ⟨k + 1, by omega, by go_num, rfl⟩
      case measure => simp [intOf]; omega
    · have e : k = len := by omega
      subst e
      go_wp2
      go_ret
      exact ⟨rfl, by rw [part_full]⟩

set_option maxHeartbeats 400000 in
theorem copyI_nil (w : World) : Calls Try.prog 28 #[.slice none 0 0] w fun e w' => e = .returned (.slice none 0 0) ∧ w' = w := by
  have hn := fun (w : World) => Lib.run_eql_slice_nil (P := Try.prog) w 53 3 none 0 0 0 0 Try.underlying53
  go_enter Try.func28, Try.ntmps28
  go_wp2
  go_ret
  exact ⟨rfl, rfl⟩

set_option maxHeartbeats 400000 in
theorem copyI_some (b off : Nat) (s : Option Nat) (len cap : Nat) (B : Nat → Int) (w : World) (hlen : len ≤ 65536) (hs : 0 < len → s = none) (hc : ∀ i, i < len → w.cell? ⟨b, off + i, none⟩ = some (.int .i64 (B i))) :
    Calls Try.prog 28 #[.slice (some ⟨b, off, s⟩) len cap] w fun e w' => e = .returned (.slice (some ⟨w.heap.size, 0, none⟩) len len) ∧ w' = w.alloc (.cells (full (fun i => .int .i64 (B i)) len) 3) := by
  have hn := fun (w : World) => Lib.run_eql_slice_nil (P := Try.prog) w 53 3 (some ⟨b, off, s⟩) len cap 0 0 Try.underlying53
  have hmk := fun (w : World) => run_make_row' (P := Try.prog) 53 3 (.int .i64 0) 8 Try.underlying53 info3 rfl .i64 .i64 len (by omega) (by omega) w
  go_enter Try.func28, Try.ntmps28
  go_wp2_with fail
  go_loopw [4] (fun i wr => ∃ k : Nat, k ≤ len ∧ i = .int .i64 k ∧ wr = w.alloc (.cells (part (.int .i64 0) (fun i => .int .i64 (B i)) k len) 3)) (fun i _ => len - (intOf i).toNat)
  case atStart => exact ⟨0, Nat.zero_le _, rfl, by rw [part_zero (.int .i64 0) (fun i => .int .i64 (B i)) len]⟩
  case round =>
    obtain ⟨k, hk, rfl, rfl⟩ := hrel
    by_cases hlt : k < len
    · have hs0 := hs (by omega)
      subst hs0
      have hck := hc k hlt
      have hbl : b < w.heap.size := block_lt_of_cell hck
      have hpk : (part (.int .i64 0) (fun i => .int .i64 (B i)) k len)[k]? = some (.int .i64 0) := by rw [part_get]; simp [hlt]
      have hst : (part (.int .i64 0) (fun i => .int .i64 (B i)) k len).setIfInBounds k (.int .i64 (B k)) = part (.int .i64 0) (fun i => .int .i64 (B i)) (k + 1) len := part_step (.int .i64 0) (fun i => .int .i64 (B i)) k len
      clear hc
      go_wp2
      go_roundw
      case rel => exact ⟨k + 1, by omega, by go_num, rfl⟩
      case measure => simp [intOf]; omega
    · have e : k = len := by omega
      subst e
      go_wp2
      go_ret
      exact ⟨rfl, by rw [part_full]⟩

end Go.Proofs.Qxb6604623a
