/-
  The small makers and readers of the sequence.
-/
import Derived.Test.Qxb6603828aMap
import Derived.Laws.ResultCell
namespace Go.Proofs.Qxb6603828a
open Go.RowKit

def Blk (w : World) (b : Nat) (cs : Array Value) (t : TypeId) : Prop := w.heap[b]? = some (.cells cs t (0, 0))

theorem uuidOf_any (v o k : Int) (r : Bool) (w : World) :
    Calls Try.prog 16 #[.agg #[.int .u64 v, .int .u64 o, .int .u8 k, .bool r]] w fun e w' => e = .returned (U ⟨v, o, k⟩) ∧
      w' = (w.alloc (.cells #[.int .u64 v, .int .u64 o, .int .u8 k, .bool r] 36)).alloc (.cells #[.int .u64 v, .int .u64 o, .int .u8 k] 41) := by
  go_enter Try.func16, Try.ntmps16
  go_wp2
  exact bodyPost_ret (v := .agg #[.int .u64 v, .int .u64 o, .int .u8 k]) (by simp [results, Try.results16, go_sem]) rfl ⟨rfl, rfl⟩

theorem newElement_any (a : Key) (r : Bool) (w : World) :
    Calls Try.prog 15 #[U a, .bool r] w fun e w' => e = .returned (.agg #[.int .u64 a.v, .int .u64 a.o, .int .u8 a.k, .bool r]) ∧
      w' = (w.alloc (.cells #[.int .u64 a.v, .int .u64 a.o, .int .u8 a.k] 41)).alloc (.cells #[.int .u64 a.v, .int .u64 a.o, .int .u8 a.k, .bool r] 43) := by
  unfold U
  go_enter Try.func15, Try.ntmps15
  go_wp2
  exact bodyPost_ret (v := .agg #[.int .u64 a.v, .int .u64 a.o, .int .u8 a.k, .bool r]) (by simp [results, Try.results15, go_sem]) rfl ⟨rfl, rfl⟩

theorem newBlock_any (s : Option Addr) (n c : Nat) (x : Int) (w : World) :
    Calls Try.prog 18 #[.slice s n c, .int .i64 x, .agg #[.int .u64 0, .int .u64 0, .int .u8 0]] w fun e w' => e = .returned (.pointer (some ⟨w.heap.size + 1, 0, none⟩)) ∧
      w' = (w.alloc (.cells #[.int .u64 0, .int .u64 0, .int .u8 0] 41)).alloc (.cells #[.slice s n c, .int .i64 x, .int .u64 0, .int .u64 0, .int .u8 0] 66) := by
  go_enter Try.func18, Try.ntmps18
  go_wp2
  go_ret
  exact ⟨rfl, rfl⟩

theorem newSequence_any (s : Option Addr) (n c : Nat) (x : Int) (w : World) :
    Calls Try.prog 17 #[.slice s n c, .int .i64 x] w fun e w' => e = .returned (.pointer (some ⟨w.heap.size, 0, none⟩)) ∧
      w' = w.alloc (.cells #[.slice s n c, .map none, .int .i64 x] 64) := by
  go_enter Try.func17, Try.ntmps17
  go_wp2
  go_ret
  exact ⟨rfl, rfl⟩

theorem blockLen_any (b : Nat) (s : Option Addr) (n c : Nat) (w : World) (h : w.cell? ⟨b, 0, none⟩ = some (.slice s n c)) :
    Calls Try.prog 21 #[.pointer (some ⟨b, 0, none⟩)] w fun e w' => e = .returned (.int .i64 n) ∧ w' = w := by
  go_enter Try.func21, Try.ntmps21
  go_wp2
  go_ret
  exact ⟨rfl, rfl⟩

theorem elementRemoved_any (b e n c j : Nat) (r : Bool) (w : World) (h : w.cell? ⟨b, 0, none⟩ = some (.slice (some ⟨e, 0, none⟩) n c)) (hj : j < n) (hc : w.cell? ⟨e, j * 4 + 3, none⟩ = some (.bool r)) :
    Calls Try.prog 22 #[.pointer (some ⟨b, 0, none⟩), .int .i64 j] w fun e w' => e = .returned (.bool r) ∧ w' = w := by
  have hj' : (j : Int) < (n : Int) := by omega
  go_enter Try.func22, Try.ntmps22
  go_wp2
  go_ret
  exact ⟨rfl, rfl⟩

theorem elementEvent_any (b e n c j : Nat) (a : Key) (w : World) (h : w.cell? ⟨b, 0, none⟩ = some (.slice (some ⟨e, 0, none⟩) n c)) (hj : j < n)
    (h0 : w.cell? ⟨e, j * 4, none⟩ = some (.int .u64 a.v)) (h1 : w.cell? ⟨e, j * 4 + 1, none⟩ = some (.int .u64 a.o)) (h2 : w.cell? ⟨e, j * 4 + 2, none⟩ = some (.int .u8 a.k)) (hb : b < w.heap.size) (he : e < w.heap.size) :
    Calls Try.prog 23 #[.pointer (some ⟨b, 0, none⟩), .int .i64 j] w fun e w' => e = .returned (U a) ∧ w' = w.alloc (.cells #[.int .u64 a.v, .int .u64 a.o, .int .u8 a.k] 41) := by
  have hj' : (j : Int) < (n : Int) := by omega
  go_enter Try.func23, Try.ntmps23
  go_wp2
  exact bodyPost_ret (v := .agg #[.int .u64 a.v, .int .u64 a.o, .int .u8 a.k]) (by simp [results, Try.results23, go_sem]) rfl ⟨rfl, rfl⟩
end Go.Proofs.Qxb6603828a
