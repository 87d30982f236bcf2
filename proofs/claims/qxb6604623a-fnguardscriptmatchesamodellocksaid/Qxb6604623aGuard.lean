/-
  What TryLock, Unlock, ZZGuard, ZZHead, ZZTail, ZZOldest do on a queue that has just been made by new(waitq.Queue).
-/
import Derived.Test.Qxb6604623aLeaf
namespace Go.Proofs.Qxb6604623a
open Go.RowKit
theorem blk_new (w : World) (cs : Array Value) (t : TypeId) : Blk (w.alloc (.cells cs t)) w.heap.size cs t := heap_alloc_new w _
theorem new_lock (w : World) (g : Int) (hg : g = 0 ∨ g = 1) :
    Calls Try.prog 10 #[.pointer (some ⟨w.heap.size, 0, none⟩)] (w.alloc (.cells #[.int .u32 g, .pointer none, .pointer none, .int .i64 0] 33)) fun e w' =>
      e = .returned (.bool (decide (g = 0))) ∧ w' = w.alloc (.cells #[.int .u32 1, .pointer none, .pointer none, .int .i64 0] 33) := by
  rcases hg with rfl | rfl
  · refine (tryLock_free w.heap.size (.pointer none) (.pointer none) 0 _ (blk_new w _ 33)).mono ?_
    rintro e w' ⟨rfl, rfl⟩
    exact ⟨rfl, by rw [World.setCell_alloc_at _ _ _ _ _ rfl]; rfl⟩
  · refine (tryLock_held w.heap.size (.pointer none) (.pointer none) 0 _ (blk_new w _ 33)).mono ?_
    rintro e w' ⟨rfl, rfl⟩
    exact ⟨rfl, rfl⟩
theorem new_unlock (w : World) (g : Int) :
    Calls Try.prog 17 #[.pointer (some ⟨w.heap.size, 0, none⟩)] (w.alloc (.cells #[.int .u32 g, .pointer none, .pointer none, .int .i64 0] 33)) fun e w' =>
      e = .returned (.tuple #[]) ∧ w' = w.alloc (.cells #[.int .u32 0, .pointer none, .pointer none, .int .i64 0] 33) := by
  refine (unlock_any w.heap.size g (.pointer none) (.pointer none) 0 _ (blk_new w _ 33)).mono ?_
  rintro e w' ⟨rfl, rfl⟩
  exact ⟨rfl, by rw [World.setCell_alloc_at _ _ _ _ _ rfl]; rfl⟩
theorem new_guard (w : World) (g : Int) :
    Calls Try.prog 11 #[.pointer (some ⟨w.heap.size, 0, none⟩)] (w.alloc (.cells #[.int .u32 g, .pointer none, .pointer none, .int .i64 0] 33)) fun e w' =>
      e = .returned (.int .u32 g) ∧ w' = w.alloc (.cells #[.int .u32 g, .pointer none, .pointer none, .int .i64 0] 33) :=
  guard_any w.heap.size g (.pointer none) (.pointer none) 0 _ (blk_new w _ 33)
theorem new_head (w : World) (g : Int) :
    Calls Try.prog 12 #[.pointer (some ⟨w.heap.size, 0, none⟩)] (w.alloc (.cells #[.int .u32 g, .pointer none, .pointer none, .int .i64 0] 33)) fun e w' =>
      e = .returned (.pointer none) ∧ w' = w.alloc (.cells #[.int .u32 g, .pointer none, .pointer none, .int .i64 0] 33) :=
  head_any w.heap.size g none (.pointer none) 0 _ (blk_new w _ 33)
theorem new_tail (w : World) (g : Int) :
    Calls Try.prog 13 #[.pointer (some ⟨w.heap.size, 0, none⟩)] (w.alloc (.cells #[.int .u32 g, .pointer none, .pointer none, .int .i64 0] 33)) fun e w' =>
      e = .returned (.pointer none) ∧ w' = w.alloc (.cells #[.int .u32 g, .pointer none, .pointer none, .int .i64 0] 33) :=
  tail_any w.heap.size g (.pointer none) none 0 _ (blk_new w _ 33)
theorem new_oldest (w : World) (g : Int) :
    Calls Try.prog 14 #[.pointer (some ⟨w.heap.size, 0, none⟩)] (w.alloc (.cells #[.int .u32 g, .pointer none, .pointer none, .int .i64 0] 33)) fun e w' =>
      e = .returned (.int .i64 0) ∧ w' = w.alloc (.cells #[.int .u32 g, .pointer none, .pointer none, .int .i64 0] 33) :=
  oldest_any w.heap.size g (.pointer none) (.pointer none) 0 _ (blk_new w _ 33)
end Go.Proofs.Qxb6604623a
