/-
  The leaves of the waitq laws: what each small Go function does, by the block that it reads or writes.
-/
import Derived.Test.Qxb6604623aProg
import Derived.WalkKit
import Derived.WalkLawsBesides
namespace Go.Proofs.Qxb6604623a
open Go.RowKit

/-- The queue's block. -/
def qcells (g : Int) (hd tl : Value) (o : Int) : Array Value := #[.int .u32 g, hd, tl, .int .i64 o]
/-- Block b of the world is a row of plain cells, none frozen. -/
def Blk (w : World) (b : Nat) (cs : Array Value) (t : TypeId) : Prop := w.heap[b]? = some (.cells cs t (0, 0))

theorem Blk.cell {w : World} {b : Nat} {cs : Array Value} {t : TypeId} (h : Blk w b cs t) (j : Nat) (v : Value) (hv : cs[j]? = some v) : w.cell? ⟨b, j, none⟩ = some v := by
  rw [cell_of_row w b j cs t (0, 0) h]; exact hv
theorem Blk.frozen {w : World} {b : Nat} {cs : Array Value} {t : TypeId} (h : Blk w b cs t) (j : Nat) : w.frozen? ⟨b, j, none⟩ = false := frozen_of_row w b j cs t h

/-- TryLock on a free guard. -/
theorem tryLock_free (q : Nat) (hd tl : Value) (o : Int) (w : World) (hq : Blk w q (qcells 0 hd tl o) 33) :
    Calls Try.prog 10 #[.pointer (some ⟨q, 0, none⟩)] w fun e w' => e = .returned (.bool true) ∧ w' = w.setCell ⟨q, 0, none⟩ (.int .u32 1) := by
  have h0 := hq.cell 0 (.int .u32 0) rfl
  have f0 := hq.frozen 0
  clear hq
  have hcas := run_call_cas_hit (P := Try.prog) Try.func38 (by kernel_rfl) (by kernel_rfl) (by kernel_rfl) .u32 (by kernel_rfl) (y := 1) h0 f0
  go_enter Try.func10, Try.ntmps10
  go_wp2
  go_ret
  exact ⟨rfl, rfl⟩

theorem tryLock_held (q : Nat) (hd tl : Value) (o : Int) (w : World) (hq : Blk w q (qcells 1 hd tl o) 33) :
    Calls Try.prog 10 #[.pointer (some ⟨q, 0, none⟩)] w fun e w' => e = .returned (.bool false) ∧ w' = w := by
  have h0 := hq.cell 0 (.int .u32 1) rfl
  have f0 := hq.frozen 0
  clear hq
  have hcas := run_call_cas_miss (P := Try.prog) Try.func38 (by kernel_rfl) (by kernel_rfl) (by kernel_rfl) .u32 (by kernel_rfl) (o := 0) (y := 1) h0 f0 (by omega)
  go_enter Try.func10, Try.ntmps10
  go_wp2
  go_ret
  exact ⟨rfl, rfl⟩

theorem unlock_any (q : Nat) (g : Int) (hd tl : Value) (o : Int) (w : World) (hq : Blk w q (qcells g hd tl o) 33) :
    Calls Try.prog 17 #[.pointer (some ⟨q, 0, none⟩)] w fun e w' => e = .returned (.tuple #[]) ∧ w' = w.setCell ⟨q, 0, none⟩ (.int .u32 0) := by
  have h0 := hq.cell 0 (.int .u32 g) rfl
  have f0 := hq.frozen 0
  clear hq
  have hst := run_call_store (P := Try.prog) Try.func41 (by kernel_rfl) (by kernel_rfl) (by kernel_rfl) (by kernel_rfl) (k := .u32) (y := 0) h0 f0
  go_enter Try.func17, Try.ntmps17
  go_wp2
  go_end0
  go_wp2
  go_end0
  exact ⟨rfl, rfl⟩

theorem guard_any (q : Nat) (g : Int) (hd tl : Value) (o : Int) (w : World) (hq : Blk w q (qcells g hd tl o) 33) :
    Calls Try.prog 11 #[.pointer (some ⟨q, 0, none⟩)] w fun e w' => e = .returned (.int .u32 g) ∧ w' = w := by
  have h0 := hq.cell 0 (.int .u32 g) rfl
  clear hq
  have hl := run_call_load (P := Try.prog) Try.func39 (by kernel_rfl) (by kernel_rfl) (by kernel_rfl) .u32 (by kernel_rfl) h0
  go_enter Try.func11, Try.ntmps11
  go_wp2
  go_ret
  exact ⟨rfl, rfl⟩

theorem oldest_any (q : Nat) (g : Int) (hd tl : Value) (o : Int) (w : World) (hq : Blk w q (qcells g hd tl o) 33) :
    Calls Try.prog 14 #[.pointer (some ⟨q, 0, none⟩)] w fun e w' => e = .returned (.int .i64 o) ∧ w' = w := by
  have h0 := hq.cell 3 (.int .i64 o) rfl
  clear hq
  have hl := run_call_load (P := Try.prog) Try.func40 (by kernel_rfl) (by kernel_rfl) (by kernel_rfl) .i64 (by kernel_rfl) h0
  go_enter Try.func14, Try.ntmps14
  go_wp2
  go_ret
  exact ⟨rfl, rfl⟩

theorem head_any (q : Nat) (g : Int) (u : Option Addr) (tl : Value) (o : Int) (w : World) (hq : Blk w q (qcells g (.pointer u) tl o) 33) :
    Calls Try.prog 12 #[.pointer (some ⟨q, 0, none⟩)] w fun e w' => e = .returned (.pointer u) ∧ w' = w := by
  have h0 := hq.cell 1 (.pointer u) rfl
  clear hq
  go_enter Try.func12, Try.ntmps12
  go_wp2
  go_ret
  exact ⟨rfl, rfl⟩

theorem tail_any (q : Nat) (g : Int) (hd : Value) (u : Option Addr) (o : Int) (w : World) (hq : Blk w q (qcells g hd (.pointer u) o) 33) :
    Calls Try.prog 13 #[.pointer (some ⟨q, 0, none⟩)] w fun e w' => e = .returned (.pointer u) ∧ w' = w := by
  have h0 := hq.cell 2 (.pointer u) rfl
  clear hq
  go_enter Try.func13, Try.ntmps13
  go_wp2
  go_ret
  exact ⟨rfl, rfl⟩

end Go.Proofs.Qxb6604623a
