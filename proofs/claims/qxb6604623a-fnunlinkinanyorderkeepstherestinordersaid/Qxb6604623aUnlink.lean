/-
  (*Queue).unlink: one contract a shape of the place: between two waiters, at the tail, at the head, alone.
-/
import Derived.Test.Qxb6604623aLeaf
import Derived.RegionTactic
import Derived.BigRegion
import Derived.Deep.RegionWith
import Derived.Deep.Draws
namespace Go.Proofs.Qxb6604623a
open Go.RowKit

/-- (*atomic.Int64).Store on a cell. -/
theorem storeI64_any (b j : Nat) (x y : Int) (w : World) (h0 : w.cell? ⟨b, j, none⟩ = some (.int .i64 x)) (f0 : w.frozen? ⟨b, j, none⟩ = false) :
    Calls Try.prog 33 #[.pointer (some ⟨b, j, none⟩), .int .i64 y] w fun e w' => e = .returned (.tuple #[]) ∧ w' = w.setCell ⟨b, j, none⟩ (.int .i64 y) := by
  have hst := run_call_store (P := Try.prog) Try.func42 (by kernel_rfl) (by kernel_rfl) (by kernel_rfl) (by kernel_rfl) (k := .i64) (y := y) h0 f0
  go_enter Try.func33, Try.ntmps33
  go_wp2
  go_end0
  exact ⟨rfl, rfl⟩

set_option maxHeartbeats 1000000 in
/-- unlink of a waiter with a waiter ahead (p) and one behind (y). -/
theorem unlink_mid (q x p y : Nat) (w : World) (hxp : ¬ x = p) (hxy : ¬ x = y) (hpy : ¬ p = y)
    (x0 : w.cell? ⟨x, 0, none⟩ = some (.pointer (some ⟨y, 0, none⟩))) (x1 : w.cell? ⟨x, 1, none⟩ = some (.pointer (some ⟨p, 0, none⟩))) (fx0 : w.frozen? ⟨x, 0, none⟩ = false) (fx1 : w.frozen? ⟨x, 1, none⟩ = false)
    (u : Value) (p0 : w.cell? ⟨p, 0, none⟩ = some u) (fp0 : w.frozen? ⟨p, 0, none⟩ = false)
    (u' : Value) (y1 : w.cell? ⟨y, 1, none⟩ = some u') (fy1 : w.frozen? ⟨y, 1, none⟩ = false) :
    Calls Try.prog 37 #[.pointer (some ⟨q, 0, none⟩), .pointer (some ⟨x, 0, none⟩)] w fun e w' => e = .returned (.tuple #[]) ∧
      ∃ m, w' = ((((w.setCell ⟨p, 0, none⟩ (.pointer (some ⟨y, 0, none⟩))).setCell ⟨y, 1, none⟩ (.pointer (some ⟨p, 0, none⟩))).setCell ⟨x, 0, none⟩ (.pointer none)).setCell ⟨x, 1, none⟩ (.pointer none)).drewN m := by
  go_enter Try.func37, Try.ntmps37
  go_wp2
  go_region
  all_goals go_wp2
  all_goals go_region
  all_goals go_wp2
  all_goals go_end0
  all_goals exact ⟨rfl, 2, rfl⟩

set_option maxHeartbeats 1000000 in
/-- unlink of the waiter at the tail, p ahead of it. -/
theorem unlink_tail (q x p : Nat) (w : World) (hxp : ¬ x = p) (hxq : ¬ x = q) (hpq : ¬ p = q)
    (x0 : w.cell? ⟨x, 0, none⟩ = some (.pointer none)) (x1 : w.cell? ⟨x, 1, none⟩ = some (.pointer (some ⟨p, 0, none⟩))) (fx0 : w.frozen? ⟨x, 0, none⟩ = false) (fx1 : w.frozen? ⟨x, 1, none⟩ = false)
    (u : Value) (p0 : w.cell? ⟨p, 0, none⟩ = some u) (fp0 : w.frozen? ⟨p, 0, none⟩ = false)
    (v2 : Value) (q2 : w.cell? ⟨q, 2, none⟩ = some v2) (fq2 : w.frozen? ⟨q, 2, none⟩ = false) :
    Calls Try.prog 37 #[.pointer (some ⟨q, 0, none⟩), .pointer (some ⟨x, 0, none⟩)] w fun e w' => e = .returned (.tuple #[]) ∧
      ∃ m, w' = ((((w.setCell ⟨p, 0, none⟩ (.pointer none)).setCell ⟨q, 2, none⟩ (.pointer (some ⟨p, 0, none⟩))).setCell ⟨x, 0, none⟩ (.pointer none)).setCell ⟨x, 1, none⟩ (.pointer none)).drewN m := by
  go_enter Try.func37, Try.ntmps37
  go_wp2
  go_region
  all_goals go_wp2
  all_goals go_end0
  all_goals exact ⟨rfl, 1, rfl⟩

set_option maxHeartbeats 1000000 in
/-- unlink of the waiter at the head, y behind it. -/
theorem unlink_head (q x y : Nat) (w : World) (hxy : ¬ x = y) (hxq : ¬ x = q) (hyq : ¬ y = q)
    (x0 : w.cell? ⟨x, 0, none⟩ = some (.pointer (some ⟨y, 0, none⟩))) (x1 : w.cell? ⟨x, 1, none⟩ = some (.pointer none)) (fx0 : w.frozen? ⟨x, 0, none⟩ = false) (fx1 : w.frozen? ⟨x, 1, none⟩ = false)
    (u' : Value) (y1 : w.cell? ⟨y, 1, none⟩ = some u') (fy1 : w.frozen? ⟨y, 1, none⟩ = false)
    (s : Int) (y2 : w.cell? ⟨y, 2, none⟩ = some (.int .i64 s))
    (v1 : Value) (q1 : w.cell? ⟨q, 1, none⟩ = some v1) (fq1 : w.frozen? ⟨q, 1, none⟩ = false) (o : Int) (q3 : w.cell? ⟨q, 3, none⟩ = some (.int .i64 o)) (fq3 : w.frozen? ⟨q, 3, none⟩ = false) :
    Calls Try.prog 37 #[.pointer (some ⟨q, 0, none⟩), .pointer (some ⟨x, 0, none⟩)] w fun e w' => e = .returned (.tuple #[]) ∧
      ∃ m, w' = (((((w.setCell ⟨q, 1, none⟩ (.pointer (some ⟨y, 0, none⟩))).setCell ⟨q, 3, none⟩ (.int .i64 s)).setCell ⟨y, 1, none⟩ (.pointer none)).setCell ⟨x, 0, none⟩ (.pointer none)).setCell ⟨x, 1, none⟩ (.pointer none)).drewN m := by
  go_enter Try.func37, Try.ntmps37
  go_wp2
  go_region_with (go_at_call 33; refine (storeI64_any q 3 o s _ ?_ ?_).mono ?_; simp [q3, World.cell?_setCell_other]; simp [fq3]; rintro e w' ⟨rfl, rfl⟩)
  all_goals go_wp2
  all_goals go_region
  all_goals go_wp2
  all_goals go_end0
  all_goals exact ⟨rfl, 2, rfl⟩

set_option maxHeartbeats 1000000 in
/-- unlink of the only waiter. -/
theorem unlink_alone (q x : Nat) (w : World) (hxq : ¬ x = q)
    (x0 : w.cell? ⟨x, 0, none⟩ = some (.pointer none)) (x1 : w.cell? ⟨x, 1, none⟩ = some (.pointer none)) (fx0 : w.frozen? ⟨x, 0, none⟩ = false) (fx1 : w.frozen? ⟨x, 1, none⟩ = false)
    (v1 : Value) (q1 : w.cell? ⟨q, 1, none⟩ = some v1) (fq1 : w.frozen? ⟨q, 1, none⟩ = false) (v2 : Value) (q2 : w.cell? ⟨q, 2, none⟩ = some v2) (fq2 : w.frozen? ⟨q, 2, none⟩ = false)
    (o : Int) (q3 : w.cell? ⟨q, 3, none⟩ = some (.int .i64 o)) (fq3 : w.frozen? ⟨q, 3, none⟩ = false) :
    Calls Try.prog 37 #[.pointer (some ⟨q, 0, none⟩), .pointer (some ⟨x, 0, none⟩)] w fun e w' => e = .returned (.tuple #[]) ∧
      ∃ m, w' = (((((w.setCell ⟨q, 1, none⟩ (.pointer none)).setCell ⟨q, 3, none⟩ (.int .i64 0)).setCell ⟨q, 2, none⟩ (.pointer none)).setCell ⟨x, 0, none⟩ (.pointer none)).setCell ⟨x, 1, none⟩ (.pointer none)).drewN m := by
  go_enter Try.func37, Try.ntmps37
  go_wp2_with (go_at_call 33; refine (storeI64_any q 3 o 0 _ ?_ ?_).mono ?_; simp [q3, World.cell?_setCell_other]; simp [fq3]; rintro e w' ⟨rfl, rfl⟩)
  go_end0
  exact ⟨rfl, 0, rfl⟩

end Go.Proofs.Qxb6604623a
