/-
  What the four laws over a built queue share: the queue behind ZZNewQueue and TryLock, and small facts on it.
-/
import Derived.Test.Qxb6604623aNewQueue
import Derived.Lib.Builder
import Derived.Test.Qxb6604623aReads
import Derived.Test.Qxb6604623aBytes
namespace Go.Proofs.Qxb6604623a
open Go.RowKit

/-- A callee that leaves the world as it is. -/
theorem calls_same {P : Program} {f : FuncId} {args : Array Value} {w : World} {v : Value} {R : Ending → World → Prop} (h : Calls P f args w fun e w' => e = .returned v ∧ w' = w) (k : R (.returned v) w) : Calls P f args w R :=
  h.mono (by rintro e w' ⟨rfl, rfl⟩; exact k)
theorem info61 : (Try.prog.info? 61).isSome = true := by kernel_rfl
/-- A pointer to a waiter against itself. -/
theorem neq_same (u : Option Addr) (w : World) : (binOp .neq 28 (.pointer u) (.pointer u)).run Try.prog w = .ok (.bool false) w := by
  cases u with
  | none => exact (run_neq_pointer_nil w 28 none Try.underlying28).trans rfl
  | some a =>
    obtain ⟨j, hj⟩ := Option.isSome_iff_exists.1 info61
    exact Lib.run_neq_ptr_same w a Try.underlying28 hj
theorem below_drewN (w : World) (m : Nat) : Below w.heap.size w (w.drewN m) := ⟨rfl, rfl, rfl, Nat.le_refl _, fun _ _ => rfl⟩

section
variable {w : World} {q B n : Nat} {Z : Nat → Int} {g : Int} {al : Nat → Bool} {hd tl : Option Nat} {nx pv : Nat → Option Nat}
theorem QSt.head (h : QSt w q B n Z g al hd tl nx pv) (j : Nat) (e : hd = some j) : Calls Try.prog 12 #[.pointer (some ⟨q, 0, none⟩)] w fun e w' => e = .returned (.pointer (some ⟨B + j, 0, none⟩)) ∧ w' = w := by
  subst e
  exact head_any q g _ _ _ w h.qb
theorem QSt.head0 (h : QSt w q B n Z g al hd tl nx pv) (e : hd = none) : Calls Try.prog 12 #[.pointer (some ⟨q, 0, none⟩)] w fun e w' => e = .returned (.pointer none) ∧ w' = w := by
  subst e
  exact head_any q g _ _ _ w h.qb
theorem QSt.headP (h : QSt w q B n Z g al hd tl nx pv) : Calls Try.prog 12 #[.pointer (some ⟨q, 0, none⟩)] w fun e w' => e = .returned (.pointer (wp B hd)) ∧ w' = w := head_any q g _ _ _ w h.qb
theorem QSt.tail0 (h : QSt w q B n Z g al hd tl nx pv) (e : tl = none) : Calls Try.prog 13 #[.pointer (some ⟨q, 0, none⟩)] w fun e w' => e = .returned (.pointer none) ∧ w' = w := by
  subst e
  exact tail_any q g _ _ _ w h.qb
theorem QSt.tailP (h : QSt w q B n Z g al hd tl nx pv) : Calls Try.prog 13 #[.pointer (some ⟨q, 0, none⟩)] w fun e w' => e = .returned (.pointer (wp B tl)) ∧ w' = w := tail_any q g _ _ _ w h.qb
theorem QSt.oldestP (h : QSt w q B n Z g al hd tl nx pv) : Calls Try.prog 14 #[.pointer (some ⟨q, 0, none⟩)] w fun e w' => e = .returned (.int .i64 (old Z hd)) ∧ w' = w := oldest_any q g _ _ _ w h.qb
theorem QSt.oldest0 (h : QSt w q B n Z g al hd tl nx pv) (e : hd = none) : Calls Try.prog 14 #[.pointer (some ⟨q, 0, none⟩)] w fun e w' => e = .returned (.int .i64 0) ∧ w' = w := by
  subst e
  exact oldest_any q g _ _ _ w h.qb
theorem QSt.guardP (h : QSt w q B n Z g al hd tl nx pv) : Calls Try.prog 11 #[.pointer (some ⟨q, 0, none⟩)] w fun e w' => e = .returned (.int .u32 g) ∧ w' = w := guard_any q g _ _ _ w h.qb
end

/-- The queue as the laws have it behind TryLock: q its block, the slice of waiters in block q + 1, the waiters from q + 2 on; the row of arrivals in block c. -/
structure Built (w0 w : World) (q n : Nat) (Z : Nat → Int) (so : Option Addr) (c : Nat) : Prop where
  st : QSt w q (q + 2) n Z 1 (fun _ => true) (hd0 n) (tl0 n) (nx0 n) pv0
  ws : Blk w (q + 1) (full (fun j => .pointer (some ⟨q + 2 + j, 0, none⟩)) n) 28
  own : Own w so c n Z
  lt : 0 < n → c < q
  size : w.heap.size = q + 2 + n
  below : Below w0.heap.size w0 w
  ge : w0.heap.size ≤ q

theorem Built.undrew {w w' : World} {q n : Nat} {Z : Nat → Int} {so : Option Addr} {c m : Nat} (h : Built (w.drewN m) w' q n Z so c) : Built w w' q n Z so c :=
  ⟨h.st, h.ws, h.own, h.lt, h.size, ⟨h.below.os, h.below.tape, h.below.output, h.below.size, h.below.block⟩, h.ge⟩
/-- TryLock behind ZZNewQueue. -/
theorem built_lock {w0 w1 w2 : World} {n : Nat} {Z : Nat → Int} {so : Option Addr} {c : Nat} (hb : Below w0.heap.size w0 w1) (ho : Own w1 so c n Z) (hlt : 0 < n → c < w1.heap.size)
    (h2 : QSt w2 w1.heap.size (w1.heap.size + 2) n Z 0 (fun _ => true) (hd0 n) (tl0 n) (nx0 n) pv0) (hs : Blk w2 (w1.heap.size + 1) (full (fun j => .pointer (some ⟨w1.heap.size + 2 + j, 0, none⟩)) n) 28)
    (hz : w2.heap.size = w1.heap.size + 2 + n) (hb2 : Below w1.heap.size w1 w2) :
    Calls Try.prog 10 #[.pointer (some ⟨w1.heap.size, 0, none⟩)] w2 fun e w' => e = .returned (.bool true) ∧ Built w0 w' w1.heap.size n Z so c := by
  refine (tryLock_free _ _ _ _ _ h2.qb).mono ?_
  rintro e w' ⟨rfl, rfl⟩
  refine ⟨rfl, h2.guard (by omega) 1, hs.other _ _ _ (by omega), ⟨ho.at_, fun i hi => ?_⟩, hlt, by simp [hz], ?_, hb.size⟩
  · rw [World.cell?_setCell_other _ _ _ _ (by intro e; have h1 := hlt (by omega); have h2 : w1.heap.size = c := congrArg Addr.block e; omega)]
    exact (hb2.cell (p := ⟨c, i, none⟩) (hlt (by omega))).trans (ho.cells i hi)
  · exact (hb.trans (hb2.mono hb.size)).setCell (p := ⟨w1.heap.size, 0, none⟩) (by exact hb.size) _

/-- The row of arrivals, the slice of waiters: they stay where nothing but queue and waiters turns. -/
theorem Fr.own {q n c : Nat} {w w' : World} {so : Option Addr} {Z : Nat → Int} (k : Fr q (q + 2) n w w') (h : Own w so c n Z) (hlt : 0 < n → c < q) : Own w' so c n Z :=
  ⟨h.at_, fun i hi => (World.cell?_of_block (w := w) (a := ⟨c, i, none⟩) (k.block c (by have := hlt (by omega); omega) (.inl (by have := hlt (by omega); omega)))).trans (h.cells i hi)⟩
theorem Fr.ws {q n : Nat} {w w' : World} {cs : Array Value} (k : Fr q (q + 2) n w w') (h : Blk w (q + 1) cs 28) : Blk w' (q + 1) cs 28 :=
  (k.block (q + 1) (by omega) (.inl (by omega))).trans h
theorem ws_cell {q n : Nat} {w : World} (h : Blk w (q + 1) (full (fun j => .pointer (some ⟨q + 2 + j, 0, none⟩)) n) 28) (j : Nat) (hj : j < n) : w.cell? ⟨q + 1, j, none⟩ = some (.pointer (some ⟨q + 2 + j, 0, none⟩)) :=
  h.cell j _ (by rw [full_get]; simp [hj])
end Go.Proofs.Qxb6604623a
