/-
  The walk of FnGuardScriptMatchesAModelLock.
-/
import Derived.Test.Qxb6604623aGuard
import Derived.Test.Qxb6604623aCopy
import Derived.Test.Qxb6604623aBytes
namespace Go.Proofs.Qxb6604623a
open Go.RowKit
def gOf (h : Bool) : Int := if h then 1 else 0
theorem qnew_below (w w1 : World) (g : Int) (hb : Below w.heap.size w w1) : Below w.heap.size w (w1.alloc (.cells #[.int .u32 g, .pointer none, .pointer none, .int .i64 0] 33)) := hb.alloc hb.size _

set_option maxHeartbeats 400000 in
theorem script_run (b off : Nat) (s : Option Nat) (len cap : Nat) (B : Nat → Bool) (w : World) (hlen : len ≤ 65536) (hs : 0 < len → s = none) (hc : ∀ i, i < len → w.cell? ⟨b, off + i, none⟩ = some (.bool (B i))) :
    Calls Try.prog 4 #[.slice (some ⟨b, off, s⟩) len cap] w fun e w' => e = .returned (.bool true) ∧ Below w.heap.size w w' := by
  have h1 : ¬ (65536 : Int) < (len : Int) := by omega
  go_enter Try.func4, Try.ntmps4
  go_wp2_with fail
  refine (bytes15_ok _ _ _ _ (by omega)).mono ?_
  rintro e w' ⟨rfl, rfl⟩
  go_wp2_with fail
  refine (copyB_some b off s len cap B _ hlen hs hc).mono ?_
  rintro e w1 ⟨rfl, hw1⟩
  have hB : Below w'.heap.size w' w1 := by rw [hw1]; exact (Below.refl _ _).alloc (Nat.le_refl _) _
  have hcc : ∀ i, i < len → w1.cell? ⟨w'.heap.size, i, none⟩ = some (.bool (B i)) := by
    intro i hi
    rw [hw1, World.cell?_alloc_new, full_get]
    simp [hi]
  have hsz : w'.heap.size < w1.heap.size := by rw [hw1]; simp
  clear hw1 hc
  go_wp2_with fail
  go_loopw [4, 5] (fun hd i wr => ∃ (k : Nat) (h : Bool), k ≤ len ∧ i = .int .i64 k ∧ hd = .bool h ∧ wr = w1.alloc (.cells #[.int .u32 (gOf h), .pointer none, .pointer none, .int .i64 0] 33)) (fun _ i _ => len - (intOf i).toNat)
  case atStart => exact ⟨0, false, Nat.zero_le _, rfl, rfl, rfl⟩
  case round =>
    obtain ⟨k, h, hk, rfl, rfl, rfl⟩ := hrel
    by_cases hlt : k < len
    · have hck := hcc k hlt
      clear hcc
      cases hB' : B k <;> cases h <;> rw [hB'] at hck
      all_goals
        simp only [gOf, if_true, if_false, Bool.false_eq_true]
        go_wp2_with (first | (go_at_call 10; refine (new_lock _ _ ?_).mono ?_; (first | exact .inl rfl | exact .inr rfl); rintro e w' ⟨rfl, rfl⟩) | (go_at_call 17; refine (new_unlock _ _).mono ?_; rintro e w' ⟨rfl, rfl⟩) | (go_at_call 11; refine (new_guard _ _).mono ?_; rintro e w' ⟨rfl, rfl⟩))
        go_roundw
        case rel => first | exact ⟨k + 1, false, by omega, by go_num, rfl, rfl⟩ | exact ⟨k + 1, true, by omega, by go_num, rfl, rfl⟩
        case measure => simp [intOf]; omega
    · go_wp2
      go_ret
      exact ⟨rfl, qnew_below _ _ _ hB⟩

set_option maxHeartbeats 400000 in
theorem script_nil (w : World) : Calls Try.prog 4 #[.slice none 0 0] w fun e w' => e = .returned (.bool true) ∧ Below w.heap.size w w' := by
  go_enter Try.func4, Try.ntmps4
  go_wp2_with fail
  refine (bytes15_ok _ _ _ _ (by omega)).mono ?_
  rintro e w' ⟨rfl, rfl⟩
  go_wp2_with fail
  refine (copyB_nil _).mono ?_
  rintro e w1 ⟨rfl, rfl⟩
  go_wp2_with fail
  refine wp_loop_rounds 1 ?_
  rw [rounds_succ]
  go_wp2
  go_ret
  exact ⟨rfl, qnew_below _ _ _ (Below.refl _ _)⟩

set_option maxHeartbeats 400000 in
theorem script_long (a : Option Addr) (len cap : Nat) (w : World) (hlen : ¬ len ≤ 65536) : Calls Try.prog 4 #[.slice a len cap] w fun e w' => e = .returned (.bool true) ∧ Below w.heap.size w w' := by
  by_cases h : len ≤ 1048576
  · have h1 : (65536 : Int) < (len : Int) := by omega
    go_enter Try.func4, Try.ntmps4
    go_wp2_with fail
    refine (bytes15_ok _ _ _ _ h).mono ?_
    rintro e w' ⟨rfl, rfl⟩
    go_wp2
    go_ret
    exact ⟨rfl, Below.refl _ _⟩
  · go_enter Try.func4, Try.ntmps4
    go_wp2_with fail
    refine (bytes15_no _ _ _ _ h).mono ?_
    rintro e w' ⟨rfl, rfl⟩
    go_wp2
    go_ret
    exact ⟨rfl, Below.refl _ _⟩
end Go.Proofs.Qxb6604623a
