/-
  blockOf: the first call makes the index, later calls read it; each answers the last row that holds the event.
-/
import Derived.Test.Qxb6603828aBuild
import Derived.WalkSpells
import Derived.RegionTactic
import Derived.BigRegion
import Derived.Deep.QuietTactic
import Derived.BigQuiet
namespace Go.Proofs.Qxb6603828a
open Go.RowKit

/-- The index behind k rows. -/
def allF (S : Src) (bb : Nat → Nat) : Nat → Key → Option Value
  | 0, _ => none
  | k + 1, a => if hasK (S.E k) a (S.L k) = true then some (.pointer (some ⟨bb k, 0, none⟩)) else allF S bb k a
/-- .. and j elements of row k. -/
def rowF (S : Src) (bb : Nat → Nat) (k j : Nat) (a : Key) : Option Value := if hasK (S.E k) a j = true then some (.pointer (some ⟨bb k, 0, none⟩)) else allF S bb k a
theorem allF_last (S : Src) (bb : Nat → Nat) (a : Key) : ∀ k, (allF S bb k a).getD (.pointer none) = lastK S bb a k
  | 0 => rfl
  | k + 1 => by
    unfold allF lastK
    by_cases h : hasK (S.E k) a (S.L k) = true
    · simp [h]
    · simp [h, allF_last S bb a k]
theorem rowF_zero (S : Src) (bb : Nat → Nat) (k : Nat) : rowF S bb k 0 = allF S bb k := by funext a; simp [rowF, hasK]
theorem rowF_step (S : Src) (bb : Nat → Nat) (k j : Nat) : (fun b => if b.same (S.E k j) = true then some (Value.pointer (some ⟨bb k, 0, none⟩)) else rowF S bb k j b) = rowF S bb k (j + 1) := by
  funext b
  have e : hasK (S.E k) b (j + 1) = ((S.E k j).same b || hasK (S.E k) b j) := rfl
  unfold rowF
  rw [Key.same_comm b, e]
  by_cases h : (S.E k j).same b = true
  · simp [h]
  · simp [h]
theorem rowF_end (S : Src) (bb : Nat → Nat) (k : Nat) : rowF S bb k (S.L k) = allF S bb (k + 1) := by funext a; rfl

theorem MapIs.of_block {w w' : World} {r : Nat} {f : Key → Option Value} (h : MapIs w r f) (e : w'.heap[r]? = w.heap[r]?) : MapIs w' r f := by
  obtain ⟨L, c, h1, h2⟩ := h
  exact ⟨L, c, e.trans h1, h2⟩
theorem MapIs.lt {w : World} {r : Nat} {f : Key → Option Value} (h : MapIs w r f) : r < w.heap.size := by
  obtain ⟨L, c, h1, _⟩ := h
  exact (Array.getElem?_eq_some_iff.1 h1).1
theorem MapIs.alloc {w : World} {r : Nat} {f : Key → Option Value} (h : MapIs w r f) (o : Obj) : MapIs (w.alloc o) r f := h.of_block (Below.heap_alloc w o r h.lt)
theorem mapIs_new (w : World) : MapIs (w.alloc (.map #[] 0)) w.heap.size (fun _ => none) := ⟨[], 0, heap_alloc_new w _, fun _ => rfl⟩

/-- The sequence in memory: lb the slice of blocks, sb the sequence, mo its index. -/
structure Sq (S : Src) (w : World) (lb sb : Nat) (bb eb : Nat → Nat) (mo : Option Nat) : Prop where
  bl : Blk w lb (bpart bb S.N S.N) 47
  bk : ∀ i, i < S.N → Blk w (bb i) (bcells S eb i) 66
  el : ∀ i, i < S.N → Blk w (eb i) (epart (S.E i) (S.R i) (S.L i) (S.L i)) 43
  sq : Blk w sb #[.slice (some ⟨lb, 0, none⟩) S.N S.N, .map mo, .int .i64 0] 64
  mp : ∀ r, mo = some r → MapIs w r (allF S bb S.N)

/-- Blocks that are not the sequence's stay. -/
theorem Sq.grown {S : Src} {w w' : World} {lb sb : Nat} {bb eb : Nat → Nat} {mo : Option Nat} (h : Sq S w lb sb bb eb mo) (hb : Below w.heap.size w w') : Sq S w' lb sb bb eb mo :=
  ⟨h.bl.below hb h.bl.lt, fun i hi => (h.bk i hi).below hb (h.bk i hi).lt, fun i hi => (h.el i hi).below hb (h.el i hi).lt, h.sq.below hb h.sq.lt, fun r e => (h.mp r e).of_block (hb.block r (h.mp r e).lt)⟩

theorem bpart_full (bb : Nat → Nat) (n k : Nat) (h : k < n) : (bpart bb n n)[k]? = some (.pointer (some ⟨bb k, 0, none⟩)) := by
  rw [bpart_get, if_pos h, if_pos h]
theorem eful (E : Nat → Key) (R : Nat → Bool) (n j : Nat) (hj : j < n) :
    (epart E R n n)[j * 4]? = some (.int .u64 (E j).v) ∧ (epart E R n n)[j * 4 + 1]? = some (.int .u64 (E j).o) ∧ (epart E R n n)[j * 4 + 2]? = some (.int .u8 (E j).k) ∧ (epart E R n n)[j * 4 + 3]? = some (.bool (R j)) := by
  refine ⟨?_, ?_, ?_, ?_⟩
  · rw [epart_get, if_pos (by omega), if_pos (by omega)]
    simp [ecell]
  · have d : (j * 4 + 1) / 4 = j := by omega
    have m : (j * 4 + 1) % 4 = 1 := by omega
    rw [epart_get, if_pos (by omega), if_pos (by omega)]
    simp [ecell, d, m]
  · have d : (j * 4 + 2) / 4 = j := by omega
    have m : (j * 4 + 2) % 4 = 2 := by omega
    rw [epart_get, if_pos (by omega), if_pos (by omega)]
    simp [ecell, d, m]
  · have d : (j * 4 + 3) / 4 = j := by omega
    have m : (j * 4 + 3) % 4 = 3 := by omega
    rw [epart_get, if_pos (by omega), if_pos (by omega)]
    simp [ecell, d, m]
theorem Sq.els {S : Src} {w : World} {lb sb : Nat} {bb eb : Nat → Nat} {mo : Option Nat} (h : Sq S w lb sb bb eb mo) (k j : Nat) (hk : k < S.N) (hj : j < S.L k) :
    w.cell? ⟨eb k, j * 4, none⟩ = some (.int .u64 (S.E k j).v) ∧ w.cell? ⟨eb k, j * 4 + 1, none⟩ = some (.int .u64 (S.E k j).o) ∧ w.cell? ⟨eb k, j * 4 + 2, none⟩ = some (.int .u8 (S.E k j).k) ∧ w.cell? ⟨eb k, j * 4 + 3, none⟩ = some (.bool (S.R k j)) := by
  obtain ⟨a, b, c, d⟩ := eful (S.E k) (S.R k) (S.L k) j hj
  exact ⟨(h.el k hk).cell _ _ a, (h.el k hk).cell _ _ b, (h.el k hk).cell _ _ c, (h.el k hk).cell _ _ d⟩

/-- What a call of blockOf leaves. -/
structure Left (S : Src) (w w' : World) (lb sb : Nat) (bb eb : Nat → Nat) : Prop where
  gr : w.grownBy w' (some sb)
  sq : ∃ r, Sq S w' lb sb bb eb (some r)
def OfAns (S : Src) (w : World) (lb sb : Nat) (bb eb : Nat → Nat) (a : Key) (e : Ending) (w' : World) : Prop := e = .returned (lastK S bb a S.N) ∧ Left S w w' lb sb bb eb

theorem look_key {w : World} {r : Nat} {f : Key → Option Value} (h : MapIs w r f) (a : Key) : (Instr.lookup 62 (.map (some r)) (.agg #[.int .u64 a.v, .int .u64 a.o, .int .u8 a.k]) false).run Try.prog w = .ok ((f a).getD (.pointer none)) w := h.look a
theorem upd_key {w : World} {r : Nat} {f : Key → Option Value} (h : MapIs w r f) (a : Key) (v : Value) :
    ∃ o, (Instr.mapUpdate 62 (.map (some r)) (.agg #[.int .u64 a.v, .int .u64 a.o, .int .u8 a.k]) v).run Try.prog w = .ok () (setB w r o) ∧ MapIs (setB w r o) r (fun b => if b.same a = true then some v else f b) := h.update a v

theorem lastK_ptr (S : Src) (bb : Nat → Nat) (a : Key) : ∀ k, ∃ u, lastK S bb a k = .pointer u
  | 0 => ⟨none, rfl⟩
  | k + 1 => by
    unfold lastK
    by_cases h : hasK (S.E k) a (S.L k) = true
    · exact ⟨_, if_pos h⟩
    · rw [if_neg h]; exact lastK_ptr S bb a k

set_option maxRecDepth 100000 in
set_option maxHeartbeats 2000000 in
/-- A later call. -/
theorem blockOf_later (S : Src) (lb sb : Nat) (bb eb : Nat → Nat) (r : Nat) (a : Key) (w : World) (h : Sq S w lb sb bb eb (some r)) :
    Calls Try.prog 32 #[.pointer (some ⟨sb, 0, none⟩), U a] w fun e w' => OfAns S w lb sb bb eb a e w' := by
  have s1 := h.sq.cell 1 (.map (some r)) rfl
  have sl := h.sq.lt
  have hn := fun (w : World) => run_eql_map_nil (P := Try.prog) w 62 41 47 (some r) Try.underlying62
  have hm := h.mp r rfl
  have hbel : Below w.heap.size w ((w.alloc (.cells #[.int .u64 a.v, .int .u64 a.o, .int .u8 a.k] 41)).drew) := ((Below.refl _ _).alloc (Nat.le_refl _) _).drew
  have hlk := look_key (hm.of_block (w' := (w.alloc (.cells #[.int .u64 a.v, .int .u64 a.o, .int .u8 a.k] 41)).drew) (hbel.block r hm.lt)) a
  rw [allF_last] at hlk
  obtain ⟨u, hu⟩ := lastK_ptr S bb a S.N
  rw [hu] at hlk
  have HU : Hid (lastK S bb a S.N = .pointer u) := hu
  have HH : Hid (Sq S w lb sb bb eb (some r)) := h
  clear h hm hu
  unfold U
  go_enter Try.func32, Try.ntmps32
  go_wp2_with fail
  go_region
  all_goals go_wp2
  all_goals go_ret
  all_goals exact ⟨by rw [HU.out]; rfl, ⟨⟨rfl, rfl, rfl, hbel.size, fun k hk _ => hbel.block k hk⟩, r, HH.out.grown hbel⟩⟩

/-- The world in which the index has been laid, empty. -/
def W1 (w : World) (sb : Nat) (a : Key) : World := ((w.setCell ⟨sb, 1, none⟩ (.map (some (w.heap.size + 1)))).alloc (.cells #[.int .u64 a.v, .int .u64 a.o, .int .u8 a.k] 41)).alloc (.map #[] 0)

/-- The first call at work: the index answers f. -/
structure Ix (w wr : World) (sb : Nat) (a : Key) (f : Key → Option Value) : Prop where
  below : Below (w.heap.size + 1) (W1 w sb a) wr
  map : MapIs wr (w.heap.size + 1) f
theorem W1_size (w : World) (sb : Nat) (a : Key) : (W1 w sb a).heap.size = w.heap.size + 2 := by simp [W1]
theorem ix_start (w : World) (sb : Nat) (a : Key) : Ix w (W1 w sb a) sb a (fun _ => none) := by
  refine ⟨Below.refl _ _, ?_⟩
  have h := mapIs_new ((w.setCell ⟨sb, 1, none⟩ (.map (some (w.heap.size + 1)))).alloc (.cells #[.int .u64 a.v, .int .u64 a.o, .int .u8 a.k] 41))
  have e : ((w.setCell ⟨sb, 1, none⟩ (.map (some (w.heap.size + 1)))).alloc (.cells #[.int .u64 a.v, .int .u64 a.o, .int .u8 a.k] 41)).heap.size = w.heap.size + 1 := by simp
  rw [e] at h
  exact h
theorem Ix.size {w wr : World} {sb : Nat} {a : Key} {f : Key → Option Value} (h : Ix w wr sb a f) : w.heap.size + 2 ≤ wr.heap.size := by
  have := h.below.size
  rw [W1_size] at this
  exact this
/-- An old block that is not the sequence's. -/
theorem Ix.old {w wr : World} {sb : Nat} {a : Key} {f : Key → Option Value} (h : Ix w wr sb a f) {b : Nat} {cs : Array Value} {t : TypeId} (hb : Blk w b cs t) (hne : b ≠ sb) : Blk wr b cs t := by
  have hl := hb.lt
  have h1 : Blk (W1 w sb a) b cs t := ((hb.other sb 1 _ hne).alloc _).alloc _
  exact h1.below h.below (by omega)
theorem Ix.seq {w wr : World} {sb : Nat} {a : Key} {f : Key → Option Value} (h : Ix w wr sb a f) {x y : Value} (hb : Blk w sb #[x, .map none, y] 64) : Blk wr sb #[x, .map (some (w.heap.size + 1)), y] 64 := by
  have hl := hb.lt
  have h1 : Blk (W1 w sb a) sb #[x, .map (some (w.heap.size + 1)), y] 64 := (((hb.set 1 _).to rfl).alloc _).alloc _
  exact h1.below h.below (by omega)
theorem Ix.box {w wr : World} {sb : Nat} {a : Key} {f : Key → Option Value} (h : Ix w wr sb a f) : Blk wr w.heap.size #[.int .u64 a.v, .int .u64 a.o, .int .u8 a.k] 41 := by
  have h1 : Blk (W1 w sb a) w.heap.size #[.int .u64 a.v, .int .u64 a.o, .int .u8 a.k] 41 := by
    refine Blk.alloc ?_ _
    have g := heap_alloc_new (w.setCell ⟨sb, 1, none⟩ (.map (some (w.heap.size + 1)))) (.cells #[.int .u64 a.v, .int .u64 a.o, .int .u8 a.k] 41)
    rw [World.size_setCell] at g
    exact g
  exact h1.below h.below (by omega)
theorem Ix.sqs {S : Src} {w wr : World} {lb sb : Nat} {bb eb : Nat → Nat} {a : Key} {f : Key → Option Value} (h : Ix w wr sb a f) (hs : Sq S w lb sb bb eb none) :
    Blk wr lb (bpart bb S.N S.N) 47 ∧ (∀ i, i < S.N → Blk wr (bb i) (bcells S eb i) 66) ∧ (∀ i, i < S.N → Blk wr (eb i) (epart (S.E i) (S.R i) (S.L i) (S.L i)) 43) ∧
      Blk wr sb #[.slice (some ⟨lb, 0, none⟩) S.N S.N, .map (some (w.heap.size + 1)), .int .i64 0] 64 :=
  ⟨h.old hs.bl (hs.bl.ne hs.sq (by decide)), fun i hi => h.old (hs.bk i hi) ((hs.bk i hi).ne hs.sq (by decide)), fun i hi => h.old (hs.el i hi) ((hs.el i hi).ne hs.sq (by decide)), h.seq hs.sq⟩
/-- One key stored. -/
theorem Ix.step {w wr : World} {sb : Nat} {a : Key} {f f' : Key → Option Value} (h : Ix w wr sb a f) (o' o : Obj) (hm : MapIs (setB ((wr.alloc o').drew) (w.heap.size + 1) o) (w.heap.size + 1) f') : Ix w (setB ((wr.alloc o').drew) (w.heap.size + 1) o) sb a f' := by
  have hz := h.size
  refine ⟨(h.below.alloc (by omega) o').drew.trans ⟨rfl, rfl, rfl, by rw [setB_size]; exact Nat.le_refl _, fun k hk => setB_other _ _ _ _ (by omega)⟩, hm⟩
theorem Ix.left {S : Src} {w wr : World} {lb sb : Nat} {bb eb : Nat → Nat} {a : Key} (h : Ix w wr sb a (allF S bb S.N)) (hs : Sq S w lb sb bb eb none) : Left S w wr.drew lb sb bb eb := by
  obtain ⟨h1, h2, h3, h4⟩ := h.sqs hs
  have hz := h.size
  refine ⟨⟨h.below.os, h.below.tape, h.below.output, by show w.heap.size ≤ wr.heap.size; omega, fun k hk hne => ?_⟩, w.heap.size + 1, h1, h2, h3, h4, fun r e => ?_⟩
  · have e1 := h.below.block k (by omega)
    refine e1.trans ?_
    show (((w.setCell ⟨sb, 1, none⟩ (.map (some (w.heap.size + 1)))).alloc _).alloc _).heap[k]? = w.heap[k]?
    rw [Below.heap_alloc _ _ _ (by simp; omega), Below.heap_alloc _ _ _ (by simp; omega)]
    exact heap_setCell_other w ⟨sb, 1, none⟩ k _ (fun e => hne (by rw [e]))
  · cases e
    exact h.map

set_option maxRecDepth 100000 in
set_option maxHeartbeats 2000000 in
/-- The first call. -/
theorem blockOf_first (S : Src) (lb sb : Nat) (bb eb : Nat → Nat) (a : Key) (w : World) (h : Sq S w lb sb bb eb none) (hS : Small S) :
    Calls Try.prog 32 #[.pointer (some ⟨sb, 0, none⟩), U a] w fun e w' => OfAns S w lb sb bb eb a e w' := by
  obtain ⟨hN, hL⟩ := hS
  have s1 := h.sq.cell 1 (.map none) rfl
  have s0 := h.sq.cell 0 (.slice (some ⟨lb, 0, none⟩) S.N S.N) rfl
  have f1 := h.sq.frozen 1
  have sl := h.sq.lt
  have sl1 : sb < w.heap.size + 1 := by omega
  have hn := fun (w : World) => run_eql_map_nil (P := Try.prog) w 62 41 47 none Try.underlying62
  have hmm := @run_makeMap Try.prog
  unfold U
  go_enter Try.func32, Try.ntmps32
  go_wp2_with fail
  clear hn hmm s1 s0 f1
  go_loopw [23] (fun i wr => ∃ k : Nat, k ≤ S.N ∧ i = .int .i64 k ∧ Ix w wr sb a (allF S bb k)) (fun i _ => S.N - (intOf i).toNat)
  case atStart => exact ⟨0, Nat.zero_le _, rfl, ix_start w sb a⟩
  case round =>
    obtain ⟨k, hk, rfl, hI⟩ := hrel
    by_cases hlt : k < S.N
    · obtain ⟨h1, h2, h3, h4⟩ := hI.sqs h
      have bk : (k : Int) < (S.N : Int) := by omega
      have c1 := h1.cell k _ (bpart_full bb S.N k hlt)
      have c2 : wr.cell? ⟨bb k, 0, none⟩ = some (.slice (some ⟨eb k, 0, none⟩) (S.L k) (S.L k)) := (h2 k hlt).cell 0 _ rfl
      have hLk := hL k hlt
      clear h1 h2 h3 h4
      rw [← rowF_zero] at hI
      go_wp2_with fail
      clear c1 c2
      go_loopw [32] (fun i wz => ∃ j : Nat, j ≤ S.L k ∧ i = .int .i64 j ∧ Ix w wz sb a (rowF S bb k j)) (fun i _ => S.L k - (intOf i).toNat)
      case atStart => exact ⟨0, Nat.zero_le _, rfl, hI⟩
      case round =>
        obtain ⟨j, hj, rfl, hJ⟩ := hrel
        by_cases hlj : j < S.L k
        · obtain ⟨h1, h2, h3, h4⟩ := hJ.sqs h
          have bj : (j : Int) < (S.L k : Int) := by omega
          obtain ⟨d0, d1, d2, d3⟩ := eful (S.E k) (S.R k) (S.L k) j hlj
          have e0 := (h3 k hlt).cell _ _ d0
          have e1 := (h3 k hlt).cell _ _ d1
          have e2 := (h3 k hlt).cell _ _ d2
          have e3 := (h3 k hlt).cell _ _ d3
          have m1 := h4.cell 1 _ rfl
          have sl2 : sb < wr.heap.size := h4.lt
          obtain ⟨o, hup, hM⟩ := upd_key ((hJ.map.alloc (.cells #[.int .u64 (S.E k j).v, .int .u64 (S.E k j).o, .int .u8 (S.E k j).k, .bool (S.R k j)] 43)).of_block (w' := (wr.alloc (.cells #[.int .u64 (S.E k j).v, .int .u64 (S.E k j).o, .int .u8 (S.E k j).k, .bool (S.R k j)] 43)).drew) rfl) (S.E k j) (.pointer (some ⟨bb k, 0, none⟩))
          rw [rowF_step] at hM
          clear h1 h2 h3 h4 d0 d1 d2 d3
          go_wp2_with fail
          go_region
          all_goals go_wp2
          all_goals
            go_roundw
            case rel => exact ⟨j + 1, by omega, by go_num, hJ.step _ _ hM⟩
            case measure => simp [intOf]; omega
        · obtain rfl : j = S.L k := by omega
          rw [rowF_end] at hJ
          go_wp2
          go_roundw
          case rel => exact ⟨k + 1, by omega, by go_num, hJ⟩
          case measure => simp [intOf]; omega
    · obtain rfl : k = S.N := by omega
      obtain ⟨_, _, _, h4⟩ := hI.sqs h
      have m1 := h4.cell 1 _ rfl
      have q0 := hI.box.cell 0 _ rfl
      have q1 := hI.box.cell 1 _ rfl
      have q2 := hI.box.cell 2 _ rfl
      have hlk := look_key (hI.map.of_block (w' := wr.drew) rfl) a
      rw [allF_last] at hlk
      obtain ⟨u, hu⟩ := lastK_ptr S bb a S.N
      rw [hu] at hlk
      have HU : Hid (lastK S bb a S.N = .pointer u) := hu
      clear hu h4
      go_wp2_with fail
      go_region
      all_goals go_wp2
      all_goals go_ret
      all_goals exact ⟨by rw [HU.out]; rfl, hI.left h⟩

theorem blockOf_any (S : Src) (lb sb : Nat) (bb eb : Nat → Nat) (mo : Option Nat) (a : Key) (w : World) (h : Sq S w lb sb bb eb mo) (hS : Small S) :
    Calls Try.prog 32 #[.pointer (some ⟨sb, 0, none⟩), U a] w fun e w' => OfAns S w lb sb bb eb a e w' := by
  cases mo with
  | none => exact blockOf_first S lb sb bb eb a w h hS
  | some r => exact blockOf_later S lb sb bb eb r a w h

theorem Left.pre {S : Src} {w w' : World} {lb sb : Nat} {bb eb : Nat → Nat} {o : Obj} (h : Left S (w.alloc o) w' lb sb bb eb) : Left S w w' lb sb bb eb := by
  refine ⟨⟨h.gr.os, h.gr.tape, h.gr.output, Nat.le_trans (by simp) h.gr.size, fun k hk hne => (h.gr.block k (by simp; omega) hne).trans (Below.heap_alloc w o k hk)⟩, h.sq⟩

set_option maxHeartbeats 1000000 in
theorem zzBlockOf_any (S : Src) (lb sb : Nat) (bb eb : Nat → Nat) (mo : Option Nat) (a : Key) (w : World) (h : Sq S w lb sb bb eb mo) (hS : Small S) :
    Calls Try.prog 28 #[.pointer (some ⟨sb, 0, none⟩), .agg #[.int .u64 a.v, .int .u64 a.o, .int .u8 a.k]] w fun e w' => OfAns S w lb sb bb eb a e w' := by
  have H : Hid (Calls Try.prog 32 #[.pointer (some ⟨sb, 0, none⟩), .agg #[.int .u64 a.v, .int .u64 a.o, .int .u8 a.k]] (w.alloc (.cells #[.int .u64 a.v, .int .u64 a.o, .int .u8 a.k] 41)) fun e w' => OfAns S (w.alloc (.cells #[.int .u64 a.v, .int .u64 a.o, .int .u8 a.k] 41)) lb sb bb eb a e w') :=
    blockOf_any S lb sb bb eb mo a _ (h.grown ((Below.refl _ _).alloc (Nat.le_refl _) _)) hS
  obtain ⟨u, hu⟩ := lastK_ptr S bb a S.N
  have HU : Hid (lastK S bb a S.N = .pointer u) := hu
  clear h hS hu
  go_enter Try.func28, Try.ntmps28
  go_wp2_with fail
  refine H.out.mono ?_
  rintro e w' ⟨rfl, hl⟩
  rw [HU.out]
  go_wp2
  go_ret
  exact ⟨by rw [HU.out]; rfl, hl.pre⟩
end Go.Proofs.Qxb6603828a
