/-
  ZZNewQueue makes the queue in the state of a list all of whose places are live.
-/
import Derived.Test.Qxb6604623aState
import Derived.Test.Qxb6604623aCopy
import Derived.Deep.RegionWith
namespace Go.Proofs.Qxb6604623a
open Go.RowKit

/-- ZZNewQueue's memory behind k rounds; w: the world ahead of the call. -/
structure Mk (w wr : World) (n : Nat) (Z : Nat → Int) (k : Nat) : Prop where
  size : wr.heap.size = w.heap.size + 2 + k
  below : Below w.heap.size w wr
  qb : Blk wr w.heap.size (qcells 0 (.pointer (wp (w.heap.size + 2) (hd0 k))) (.pointer none) 0) 33
  sb : Blk wr (w.heap.size + 1) (part (.pointer none) (fun j => .pointer (some ⟨w.heap.size + 2 + j, 0, none⟩)) k n) 28
  nb : ∀ j, j < k → Blk wr (w.heap.size + 2 + j) (ncells (w.heap.size + 2) Z (nx0 k) pv0 j) 61

theorem Blk.alloc {w : World} {b : Nat} {cs : Array Value} {t : TypeId} (h : Blk w b cs t) (o : Obj) : Blk (w.alloc o) b cs t :=
  (Below.heap_alloc w o b (Array.getElem?_eq_some_iff.1 h).1).trans h

theorem mk_start (w : World) (n : Nat) (Z : Nat → Int) :
    Mk w ((w.alloc (.cells #[.int .u32 0, .pointer none, .pointer none, .int .i64 0] 33)).alloc (.cells (madeCells #[.pointer none] n) 28)) n Z 0 := by
  refine ⟨by simp, ((Below.refl _ _).alloc (Nat.le_refl _) _).alloc (by simp) _, ?_, ?_, fun j hj => by omega⟩
  · exact (show Blk (w.alloc (.cells #[.int .u32 0, .pointer none, .pointer none, .int .i64 0] 33)) w.heap.size _ 33 from heap_alloc_new w _).alloc _
  · rw [part_zero (.pointer none) (fun j => .pointer (some ⟨w.heap.size + 2 + j, 0, none⟩)) n]
    have h := heap_alloc_new (w.alloc (.cells #[.int .u32 0, .pointer none, .pointer none, .int .i64 0] 33)) (.cells (part (.pointer none) (fun j => .pointer (some ⟨w.heap.size + 2 + j, 0, none⟩)) 0 n) 28)
    rw [World.size_alloc] at h
    exact h

theorem blk_last {w : World} {b : Nat} (h : w.heap.size = b) (cs : Array Value) (t : TypeId) : Blk (w.alloc (.cells cs t)) b cs t := h ▸ heap_alloc_new w _

theorem nx0_step (k j : Nat) (h : j < k) : nx0 (k + 1 + 1) j = nx0 (k + 1) j := by unfold nx0; rw [if_pos (by omega), if_pos (by omega)]
theorem nx0_last (k : Nat) : nx0 (k + 1) k = none := by unfold nx0; rw [if_neg (by omega)]

theorem mk_first {w wr : World} {n : Nat} {Z : Nat → Int} (h : Mk w wr n Z 0) :
    Mk w (((wr.setCell ⟨w.heap.size, 1, none⟩ (.pointer (some ⟨wr.heap.size, 0, none⟩))).setCell ⟨w.heap.size + 1, 0, none⟩ (.pointer (some ⟨wr.heap.size, 0, none⟩))).alloc
      (.cells #[.pointer none, .pointer none, .int .i64 (Z 0), .chan none] 61)) n Z 1 := by
  have hs := h.size
  rw [hs]
  refine ⟨by simp [hs], ((h.below.setCell (by simp) _).setCell (by simp) _).alloc (by simp [hs]) _, ?_, ?_, ?_⟩
  · exact ((((h.qb.set 1 _).other (w.heap.size + 1) 0 _ (by omega)).alloc _).to rfl)
  · refine (((h.sb.other w.heap.size 1 _ (by omega)).set 0 _).alloc _).to ?_
    exact part_step (.pointer none) (fun j => .pointer (some ⟨w.heap.size + 2 + j, 0, none⟩)) 0 n
  · intro j hj
    obtain rfl : j = 0 := by omega
    exact blk_last (by simp [hs]) _ _

theorem mk_next {w wr : World} {n : Nat} {Z : Nat → Int} {k : Nat} (h : Mk w wr n Z (k + 1)) :
    Mk w (((wr.setCell ⟨w.heap.size + 2 + k, 0, none⟩ (.pointer (some ⟨wr.heap.size, 0, none⟩))).setCell ⟨w.heap.size + 1, k + 1, none⟩ (.pointer (some ⟨wr.heap.size, 0, none⟩))).alloc
      (.cells #[.pointer none, .pointer (some ⟨w.heap.size + 2 + k, 0, none⟩), .int .i64 (Z (k + 1)), .chan none] 61)) n Z (k + 1 + 1) := by
  have hs := h.size
  rw [hs]
  refine ⟨by simp [hs]; omega, ((h.below.setCell (by simp; omega) _).setCell (by simp) _).alloc (by simp [hs]; omega) _, ?_, ?_, ?_⟩
  · exact (((h.qb.other (w.heap.size + 2 + k) 0 _ (by omega)).other (w.heap.size + 1) (k + 1) _ (by omega)).alloc _).to rfl
  · refine (((h.sb.other (w.heap.size + 2 + k) 0 _ (by omega)).set (k + 1) _).alloc _).to ?_
    exact part_step (.pointer none) (fun j => .pointer (some ⟨w.heap.size + 2 + j, 0, none⟩)) (k + 1) n
  · intro j hj
    by_cases e : j = k + 1
    · subst e
      refine (blk_last (by simp [hs]) _ _).to ?_
      unfold ncells
      rw [nx0_last]
      rfl
    · have b := h.nb j (by omega)
      by_cases e2 : j = k
      · subst e2
        refine (((b.set 0 _).other (w.heap.size + 1) (j + 1) _ (by omega)).alloc _).to ?_
        have e3 : nx0 (j + 1 + 1) j = some (j + 1) := by unfold nx0; rw [if_pos (by omega)]
        unfold ncells
        rw [e3]
        rfl
      · refine (((b.other (w.heap.size + 2 + k) 0 _ (by omega)).other (w.heap.size + 1) (k + 1) _ (by omega)).alloc _).to ?_
        unfold ncells
        rw [nx0_step k j (by omega)]

/-- Behind the loop, no waiter. -/
theorem mk_end0 {w wr : World} {Z : Nat → Int} (h : Mk w wr 0 Z 0) :
    QSt (wr.setCell ⟨w.heap.size, 2, none⟩ (.pointer none)) w.heap.size (w.heap.size + 2) 0 Z 0 (fun _ => true) (hd0 0) (tl0 0) (nx0 0) pv0 ∧
      Blk (wr.setCell ⟨w.heap.size, 2, none⟩ (.pointer none)) (w.heap.size + 1) (full (fun j => .pointer (some ⟨w.heap.size + 2 + j, 0, none⟩)) 0) 28 ∧
      (wr.setCell ⟨w.heap.size, 2, none⟩ (.pointer none)).heap.size = w.heap.size + 2 + 0 ∧ Below w.heap.size w (wr.setCell ⟨w.heap.size, 2, none⟩ (.pointer none)) := by
  refine ⟨⟨Lk.start 0, (h.qb.set 2 _).to rfl, fun j hj => by omega⟩, ?_, by simp [h.size], h.below.setCell (by simp) _⟩
  rw [← part_full (.pointer none)]
  exact h.sb.other w.heap.size 2 _ (by omega)

/-- Behind the loop, some waiter. -/
theorem mk_end {w wr : World} {n : Nat} {Z : Nat → Int} (h : Mk w wr (n + 1) Z (n + 1)) (m : Nat) :
    QSt (((wr.setCell ⟨w.heap.size, 2, none⟩ (.pointer (some ⟨w.heap.size + 2 + n, 0, none⟩))).setCell ⟨w.heap.size, 3, none⟩ (.int .i64 (Z 0))).drewN m) w.heap.size (w.heap.size + 2) (n + 1) Z 0 (fun _ => true) (hd0 (n + 1)) (tl0 (n + 1)) (nx0 (n + 1)) pv0 ∧
      Blk (((wr.setCell ⟨w.heap.size, 2, none⟩ (.pointer (some ⟨w.heap.size + 2 + n, 0, none⟩))).setCell ⟨w.heap.size, 3, none⟩ (.int .i64 (Z 0))).drewN m) (w.heap.size + 1) (full (fun j => .pointer (some ⟨w.heap.size + 2 + j, 0, none⟩)) (n + 1)) 28 ∧
      (((wr.setCell ⟨w.heap.size, 2, none⟩ (.pointer (some ⟨w.heap.size + 2 + n, 0, none⟩))).setCell ⟨w.heap.size, 3, none⟩ (.int .i64 (Z 0))).drewN m).heap.size = w.heap.size + 2 + (n + 1) ∧
      Below w.heap.size w (((wr.setCell ⟨w.heap.size, 2, none⟩ (.pointer (some ⟨w.heap.size + 2 + n, 0, none⟩))).setCell ⟨w.heap.size, 3, none⟩ (.int .i64 (Z 0))).drewN m) := by
  refine ⟨⟨Lk.start (n + 1), Blk.drewN (((h.qb.set 2 _).set 3 _).to rfl) m, fun j hj => Blk.drewN (((h.nb j hj).other w.heap.size 2 _ (by omega)).other w.heap.size 3 _ (by omega)) m⟩, ?_, by simp [h.size], ?_⟩
  · rw [← part_full (.pointer none)]
    exact Blk.drewN ((h.sb.other w.heap.size 2 _ (by omega)).other w.heap.size 3 _ (by omega)) m
  · have b := (h.below.setCell (p := ⟨w.heap.size, 2, none⟩) (by simp) (.pointer (some ⟨w.heap.size + 2 + n, 0, none⟩))).setCell (p := ⟨w.heap.size, 3, none⟩) (by simp) (.int .i64 (Z 0))
    exact ⟨b.os, b.tape, b.output, b.size, b.block⟩

set_option maxHeartbeats 1000000 in
theorem newQueue_any (so : Option Addr) (c n cp : Nat) (Z : Nat → Int) (w : World) (hn : n ≤ 65536) (hso : 0 < n → so = some ⟨c, 0, none⟩) (hc : ∀ i, i < n → w.cell? ⟨c, i, none⟩ = some (.int .i64 (Z i))) :
    Calls Try.prog 21 #[.slice so n cp] w fun e w' => e = .returned (.tuple #[.pointer (some ⟨w.heap.size, 0, none⟩), .slice (some ⟨w.heap.size + 1, 0, none⟩) n n]) ∧
      QSt w' w.heap.size (w.heap.size + 2) n Z 0 (fun _ => true) (hd0 n) (tl0 n) (nx0 n) pv0 ∧
      Blk w' (w.heap.size + 1) (full (fun j => .pointer (some ⟨w.heap.size + 2 + j, 0, none⟩)) n) 28 ∧ w'.heap.size = w.heap.size + 2 + n ∧ Below w.heap.size w w' := by
  have hmk := fun (w : World) => run_make_row' (P := Try.prog) 46 28 (.pointer none) 8 Try.underlying46 info28 rfl .i64 .i64 n (by omega) (by omega) w
  go_enter Try.func21, Try.ntmps21
  go_wp2_with fail
  go_loopw [6, 7] (fun pr i wr => ∃ k : Nat, k ≤ n ∧ i = .int .i64 k ∧ pr = .pointer (wp (w.heap.size + 2) (pv0 k)) ∧ Mk w wr n Z k) (fun _ i _ => n - (intOf i).toNat)
  case atStart => exact ⟨0, Nat.zero_le _, rfl, rfl, mk_start w n Z⟩
  case round =>
    obtain ⟨k, hk, rfl, rfl, hM⟩ := hrel
    by_cases hlt : k < n
    · have hso0 := hso (by omega)
      subst hso0
      have hcc := hc k hlt
      have hck : wr.cell? ⟨c, k, none⟩ = some (.int .i64 (Z k)) := (hM.below.cell (p := ⟨c, k, none⟩) (block_lt_of_cell hcc)).trans hcc
      have hs1 : w.heap.size < wr.heap.size := by have := hM.size; omega
      have hs2 : w.heap.size + 1 < wr.heap.size := by have := hM.size; omega
      have q1 := hM.qb.cell 1 _ rfl
      have fq1 := hM.qb.frozen 1
      have s0 : wr.cell? ⟨w.heap.size + 1, k, none⟩ = some (.pointer none) := hM.sb.cell k _ (by rw [part_get]; simp [hlt])
      have fs0 := hM.sb.frozen k
      clear hcc hc
      rcases Nat.eq_zero_or_pos k with h0 | h0
      · subst h0
        have hu : wp (w.heap.size + 2) (pv0 0) = none := rfl
        have HM : Hid (Mk w wr n Z 0) := hM
        clear hM
        go_wp2
        go_roundw
        case rel => exact ⟨1, by omega, by go_num, by rw [HM.out.size]; rfl, mk_first HM.out⟩
        case measure => simp [intOf]; omega
      · obtain ⟨k, rfl⟩ : ∃ k', k = k' + 1 := ⟨k - 1, by omega⟩
        have hu : wp (w.heap.size + 2) (pv0 (k + 1)) = some ⟨w.heap.size + 2 + k, 0, none⟩ := rfl
        have hs3 : w.heap.size + 2 + k < wr.heap.size := by have := hM.size; omega
        have p0 := (hM.nb k (by omega)).cell 0 _ rfl
        have fp0 := (hM.nb k (by omega)).frozen 0
        have HM : Hid (Mk w wr n Z (k + 1)) := hM
        clear hM
        go_wp2
        go_roundw
        case rel => exact ⟨k + 1 + 1, by omega, by go_num, by rw [HM.out.size]; rfl, mk_next HM.out⟩
        case measure => simp [intOf]; omega
    · obtain rfl : n = k := by omega
      clear hso hc
      have q2 : wr.cell? ⟨w.heap.size, 2, none⟩ = some (.pointer none) := hM.qb.cell 2 _ rfl
      have fq2 := hM.qb.frozen 2
      have q3 : wr.cell? ⟨w.heap.size, 3, none⟩ = some (.int .i64 0) := hM.qb.cell 3 _ rfl
      have fq3 := hM.qb.frozen 3
      rcases Nat.eq_zero_or_pos n with h0 | h0
      · subst h0
        have q1 : wr.cell? ⟨w.heap.size, 1, none⟩ = some (.pointer none) := hM.qb.cell 1 _ rfl
        have hu : wp (w.heap.size + 2) (pv0 0) = none := rfl
        have HM : Hid (Mk w wr 0 Z 0) := hM
        clear hM
        go_wp2
        go_ret2
        exact ⟨rfl, mk_end0 HM.out⟩
      · obtain ⟨n, rfl⟩ : ∃ k', n = k' + 1 := ⟨n - 1, by omega⟩
        have q1 : wr.cell? ⟨w.heap.size, 1, none⟩ = some (.pointer (some ⟨w.heap.size + 2, 0, none⟩)) := hM.qb.cell 1 _ rfl
        have hu : wp (w.heap.size + 2) (pv0 (n + 1)) = some ⟨w.heap.size + 2 + n, 0, none⟩ := rfl
        have z2 : wr.cell? ⟨w.heap.size + 2, 2, none⟩ = some (.int .i64 (Z 0)) := (hM.nb 0 (by omega)).cell 2 _ rfl
        have HM : Hid (Mk w wr (n + 1) Z (n + 1)) := hM
        clear hM
        go_wp2
        go_region_with (go_at_call 33; refine (storeI64_any w.heap.size 3 0 (Z 0) _ ?_ ?_).mono ?_; simp [q3, World.cell?_setCell_other]; simp [fq3]; rintro e w' ⟨rfl, rfl⟩)
        all_goals go_wp2
        all_goals go_ret2
        all_goals exact ⟨rfl, mk_end HM.out 1⟩
end Go.Proofs.Qxb6604623a
