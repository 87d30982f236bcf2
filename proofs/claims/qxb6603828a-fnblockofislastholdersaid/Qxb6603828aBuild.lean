/-
  build: the blocks, their elements, the sequence, in new memory.
-/
import Derived.Test.Qxb6603828aLast
import Derived.Deep.OwnRows
import Derived.Deep.RegionWith
import Derived.Deep.Draws
namespace Go.Proofs.Qxb6603828a
open Go.RowKit

/-- The cell of element i/4 at i%4. -/
def ecell (E : Nat → Key) (R : Nat → Bool) (i : Nat) : Value :=
  if i % 4 = 0 then .int .u64 (E (i / 4)).v else if i % 4 = 1 then .int .u64 (E (i / 4)).o else if i % 4 = 2 then .int .u8 (E (i / 4)).k else .bool (R (i / 4))
def zcell (i : Nat) : Value := if i % 4 = 0 then .int .u64 0 else if i % 4 = 1 then .int .u64 0 else if i % 4 = 2 then .int .u8 0 else .bool false
/-- A row of n elements, the first j of which are laid. -/
def epart (E : Nat → Key) (R : Nat → Bool) (j n : Nat) : Array Value := ((List.range (n * 4)).map fun i => if i < j * 4 then ecell E R i else zcell i).toArray
theorem epart_get (E : Nat → Key) (R : Nat → Bool) (j n i : Nat) : (epart E R j n)[i]? = if i < n * 4 then some (if i < j * 4 then ecell E R i else zcell i) else none := by
  unfold epart
  by_cases h : i < n * 4 <;> simp [h]
theorem epart_size (E : Nat → Key) (R : Nat → Bool) (j n : Nat) : (epart E R j n).size = n * 4 := by simp [epart]

theorem info43 : (Try.prog.info? 43).map (fun i => (i.zero, i.size, i.bytes)) = some (some (.agg #[.int .u64 0, .int .u64 0, .int .u8 0, .bool false]), 4, 32) := by kernel_rfl
theorem info47 : (Try.prog.info? 47).map (fun i => (i.zero, i.size, i.bytes)) = some (some (.pointer none), 1, 8) := by kernel_rfl

theorem made_epart (E : Nat → Key) (R : Nat → Bool) (n : Nat) : madeCells #[.int .u64 0, .int .u64 0, .int .u8 0, .bool false] (n * 4) = epart E R 0 n := by
  apply Array.ext_getElem?
  intro i
  rw [epart_get]
  by_cases h : i < n * 4
  · have h4 : i % 4 < 4 := Nat.mod_lt _ (by omega)
    simp [madeCells, h, zcell]
    rcases (show i % 4 = 0 ∨ i % 4 = 1 ∨ i % 4 = 2 ∨ i % 4 = 3 by omega) with e | e | e | e <;> simp [e]
  · simp [madeCells, h]
theorem run_make_els (n : Nat) (hn : n ≤ 1048576) (E : Nat → Key) (R : Nat → Bool) (w : World) :
    (Instr.makeSlice 38 (.int .i64 (n : Int)) (.int .i64 (n : Int))).run Try.prog w = .ok (.slice (some ⟨w.heap.size, 0, none⟩) n n) (w.alloc (.cells (epart E R 0 n) 43)) := by
  obtain ⟨i, hi, hz, hs, hb⟩ := info_parts info43
  have h := run_make (P := Try.prog) w 38 43 i _ Try.underlying38 hi hz .i64 .i64 n n (by omega) (by omega) (by rw [hb]; omega) (by omega)
  rw [hs] at h
  simp only [Int.toNat_natCast, Value.cells] at h
  rw [h, made_epart E R n]

/-- The bl slice's cells. -/
def bpart (bb : Nat → Nat) (k n : Nat) : Array Value := ((List.range n).map fun i => if i < k then Value.pointer (some ⟨bb i, 0, none⟩) else .pointer none).toArray
theorem bpart_get (bb : Nat → Nat) (k n i : Nat) : (bpart bb k n)[i]? = if i < n then some (if i < k then Value.pointer (some ⟨bb i, 0, none⟩) else .pointer none) else none := by
  unfold bpart
  by_cases h : i < n <;> simp [h]
theorem bpart_zero (bb : Nat → Nat) (n : Nat) : madeCells #[.pointer none] n = bpart bb 0 n := by
  apply Array.ext_getElem?
  intro i
  rw [bpart_get]
  by_cases h : i < n <;> simp [madeCells, h, Nat.mod_one]
/-- The block of row i. -/
def bcells (S : Src) (eb : Nat → Nat) (i : Nat) : Array Value := #[.slice (some ⟨eb i, 0, none⟩) (S.L i) (S.L i), .int .i64 0, .int .u64 0, .int .u64 0, .int .u8 0]
/-- build's memory behind k rounds; w: the world ahead of the call. -/
structure Bld (S : Src) (w wr : World) (k : Nat) (bb eb : Nat → Nat) : Prop where
  below : Below w.heap.size w wr
  size : w.heap.size < wr.heap.size
  bl : Blk wr w.heap.size (bpart bb k S.N) 47
  bk : ∀ i, i < k → Blk wr (bb i) (bcells S eb i) 66
  el : ∀ i, i < k → Blk wr (eb i) (epart (S.E i) (S.R i) (S.L i) (S.L i)) 43
  ge : ∀ i, i < k → w.heap.size < bb i ∧ w.heap.size < eb i

theorem Blk.set {w : World} {b : Nat} {cs : Array Value} {t : TypeId} (h : Blk w b cs t) (i : Nat) (v : Value) : Blk (w.setCell ⟨b, i, none⟩ v) b (cs.setIfInBounds i v) t :=
  heap_setCell_same w b i cs t v h
theorem Blk.other {w : World} {b : Nat} {cs : Array Value} {t : TypeId} (h : Blk w b cs t) (c i : Nat) (v : Value) (hne : b ≠ c) : Blk (w.setCell ⟨c, i, none⟩ v) b cs t :=
  (heap_setCell_other w ⟨c, i, none⟩ b v hne).trans h
theorem Blk.to {w : World} {b : Nat} {cs cs' : Array Value} {t : TypeId} (h : Blk w b cs t) (e : cs = cs') : Blk w b cs' t := e ▸ h
theorem Blk.lt {w : World} {b : Nat} {cs : Array Value} {t : TypeId} (h : Blk w b cs t) : b < w.heap.size := (Array.getElem?_eq_some_iff.1 h).1
theorem Blk.alloc {w : World} {b : Nat} {cs : Array Value} {t : TypeId} (h : Blk w b cs t) (o : Obj) : Blk (w.alloc o) b cs t := (Below.heap_alloc w o b h.lt).trans h
theorem Blk.drew {w : World} {b : Nat} {cs : Array Value} {t : TypeId} (h : Blk w b cs t) : Blk w.drew b cs t := h
theorem Blk.below {w w' : World} {b M : Nat} {cs : Array Value} {t : TypeId} (h : Blk w b cs t) (hb : Below M w w') (hM : b < M) : Blk w' b cs t := (hb.block b hM).trans h
theorem Blk.cell {w : World} {b : Nat} {cs : Array Value} {t : TypeId} (h : Blk w b cs t) (j : Nat) (v : Value) (hv : cs[j]? = some v) : w.cell? ⟨b, j, none⟩ = some v := by
  rw [cell_of_row w b j cs t (0, 0) h]; exact hv
theorem Blk.frozen {w : World} {b : Nat} {cs : Array Value} {t : TypeId} (h : Blk w b cs t) (j : Nat) : w.frozen? ⟨b, j, none⟩ = false := frozen_of_row w b j cs t h
theorem Blk.ne {w : World} {b c : Nat} {cs ds : Array Value} {t u : TypeId} (h : Blk w b cs t) (k : Blk w c ds u) (htu : t ≠ u) : b ≠ c := by
  rintro rfl
  unfold Blk at h k
  rw [h] at k
  simp at k
  exact htu k.2

theorem epart_at (E : Nat → Key) (R : Nat → Bool) (j n i : Nat) (hi : i < n * 4) : ∃ v, (epart E R j n)[i]? = some v := ⟨_, by rw [epart_get, if_pos hi]⟩
theorem epart_step (E : Nat → Key) (R : Nat → Bool) (j n : Nat) :
    ((((epart E R j n).setIfInBounds (j * 4) (.int .u64 (E j).v)).setIfInBounds (j * 4 + 1) (.int .u64 (E j).o)).setIfInBounds (j * 4 + 2) (.int .u8 (E j).k)).setIfInBounds (j * 4 + 3) (.bool (R j)) = epart E R (j + 1) n := by
  apply Array.ext_getElem?
  intro i
  simp only [Array.getElem?_setIfInBounds, Array.size_setIfInBounds, epart_get, epart_size]
  by_cases h : i < n * 4
  · by_cases h0 : j * 4 ≤ i ∧ i < j * 4 + 4
    · have hd : i / 4 = j := by omega
      rcases (show i = j * 4 ∨ i = j * 4 + 1 ∨ i = j * 4 + 2 ∨ i = j * 4 + 3 by omega) with e | e | e | e
      · have m : i % 4 = 0 := by omega
        have l : i < (j + 1) * 4 := by omega
        have n4 : j * 4 = i := by omega
        simp [n4, h, l, ecell, m, hd]
      · have m : i % 4 = 1 := by omega
        have l : i < (j + 1) * 4 := by omega
        have n1 : ¬ j * 4 + 3 = i := by omega
        have n2 : ¬ j * 4 + 2 = i := by omega
        have n4 : j * 4 + 1 = i := by omega
        simp [n1, n2, n4, h, l, ecell, m, hd]
      · have m : i % 4 = 2 := by omega
        have l : i < (j + 1) * 4 := by omega
        have n1 : ¬ j * 4 + 3 = i := by omega
        have n4 : j * 4 + 2 = i := by omega
        simp [n1, n4, h, l, ecell, m, hd]
      · have m : i % 4 = 3 := by omega
        have l : i < (j + 1) * 4 := by omega
        have n4 : j * 4 + 3 = i := by omega
        simp [n4, h, l, ecell, m, hd]
    · have n0 : ¬ j * 4 = i := by omega
      have n1 : ¬ j * 4 + 1 = i := by omega
      have n2 : ¬ j * 4 + 2 = i := by omega
      have n3 : ¬ j * 4 + 3 = i := by omega
      have l : (i < (j + 1) * 4) = (i < j * 4) := by apply propext; omega
      simp [n0, n1, n2, n3, h, l]
  · have n0 : ¬ (j * 4 = i ∧ i < n * 4) := by omega
    by_cases e0 : j * 4 = i <;> by_cases e1 : j * 4 + 1 = i <;> by_cases e2 : j * 4 + 2 = i <;> by_cases e3 : j * 4 + 3 = i <;> simp [e0, e1, e2, e3, h]

/-- One element laid: the inner loop's relation goes on. -/
theorem els_step {wk wr : World} {E : Nat → Key} {R : Nat → Bool} {j n : Nat} (hE : Blk wr wk.heap.size (epart E R j n) 43) (hb : Below wk.heap.size wk wr) (o1 o2 o3 o4 : Obj) :
    Blk ((((((((wr.setCell ⟨wk.heap.size, j * 4, none⟩ (.int .u64 (E j).v)).setCell ⟨wk.heap.size, j * 4 + 1, none⟩ (.int .u64 (E j).o)).setCell ⟨wk.heap.size, j * 4 + 2, none⟩ (.int .u8 (E j).k)).setCell ⟨wk.heap.size, j * 4 + 3, none⟩ (.bool (R j))).alloc o1).alloc o2).alloc o3).alloc o4).drew wk.heap.size (epart E R (j + 1) n) 43 ∧
    Below wk.heap.size wk ((((((((wr.setCell ⟨wk.heap.size, j * 4, none⟩ (.int .u64 (E j).v)).setCell ⟨wk.heap.size, j * 4 + 1, none⟩ (.int .u64 (E j).o)).setCell ⟨wk.heap.size, j * 4 + 2, none⟩ (.int .u8 (E j).k)).setCell ⟨wk.heap.size, j * 4 + 3, none⟩ (.bool (R j))).alloc o1).alloc o2).alloc o3).alloc o4).drew ∧
    wk.heap.size < ((((((((wr.setCell ⟨wk.heap.size, j * 4, none⟩ (.int .u64 (E j).v)).setCell ⟨wk.heap.size, j * 4 + 1, none⟩ (.int .u64 (E j).o)).setCell ⟨wk.heap.size, j * 4 + 2, none⟩ (.int .u8 (E j).k)).setCell ⟨wk.heap.size, j * 4 + 3, none⟩ (.bool (R j))).alloc o1).alloc o2).alloc o3).alloc o4).drew.heap.size := by
  have hs := hE.lt
  refine ⟨Blk.drew (((((((((hE.set _ _).set _ _).set _ _).set _ _).to (epart_step E R j n)).alloc _).alloc _).alloc _).alloc _), ?_, by simp; omega⟩
  have b1 := (((hb.setCell (p := ⟨wk.heap.size, j * 4, none⟩) (Nat.le_refl _) (.int .u64 (E j).v)).setCell (p := ⟨wk.heap.size, j * 4 + 1, none⟩) (Nat.le_refl _) (.int .u64 (E j).o)).setCell (p := ⟨wk.heap.size, j * 4 + 2, none⟩) (Nat.le_refl _) (.int .u8 (E j).k)).setCell (p := ⟨wk.heap.size, j * 4 + 3, none⟩) (Nat.le_refl _) (.bool (R j))
  exact ((((b1.alloc (by simp; omega) _).alloc (by simp; omega) _).alloc (by simp; omega) _).alloc (by simp; omega) _).drew

/-- A function turned at one place. -/
def upd (f : Nat → Nat) (k x : Nat) : Nat → Nat := fun i => if i = k then x else f i
theorem upd_same (f : Nat → Nat) (k x : Nat) : upd f k x k = x := by simp [upd]
theorem upd_lt (f : Nat → Nat) (k x i : Nat) (h : i < k) : upd f k x i = f i := by simp [upd, Nat.ne_of_lt h]
theorem bpart_step (bb : Nat → Nat) (k n x : Nat) : (bpart bb k n).setIfInBounds k (.pointer (some ⟨x, 0, none⟩)) = bpart (upd bb k x) (k + 1) n := by
  apply Array.ext_getElem?
  intro i
  have hs : (bpart bb k n).size = n := by simp [bpart]
  rw [Array.getElem?_setIfInBounds, bpart_get, bpart_get, hs]
  by_cases e : k = i
  · subst e
    by_cases h : k < n <;> simp [h, upd_same]
  · by_cases h : i < n
    · by_cases h2 : i < k
      · simp [e, h, h2, Nat.lt_succ_of_lt h2, upd_lt _ _ _ _ h2]
      · have : ¬ i < k + 1 := by omega
        simp [e, h, h2, this]
    · simp [e, h]

theorem bld_start (S : Src) (w : World) (bb eb : Nat → Nat) : Bld S w (w.alloc (.cells (madeCells #[.pointer none] S.N) 47)) 0 bb eb := by
  refine ⟨(Below.refl _ _).alloc (Nat.le_refl _) _, by simp, ?_, fun i hi => by omega, fun i hi => by omega, fun i hi => by omega⟩
  rw [bpart_zero bb]
  exact heap_alloc_new w _

theorem bld_step {S : Src} {w wk wr : World} {k : Nat} {bb eb : Nat → Nat} (h : Bld S w wk k bb eb) (hE : Blk wr wk.heap.size (epart (S.E k) (S.R k) (S.L k) (S.L k)) 43) (hb : Below wk.heap.size wk wr) (o1 : Obj) :
    Bld S w (((wr.setCell ⟨w.heap.size, k, none⟩ (.pointer (some ⟨wr.heap.size + 1, 0, none⟩))).alloc o1).alloc (.cells #[.slice (some ⟨wk.heap.size, 0, none⟩) (S.L k) (S.L k), .int .i64 0, .int .u64 0, .int .u64 0, .int .u8 0] 66)) (k + 1) (upd bb k (wr.heap.size + 1)) (upd eb k wk.heap.size) := by
  have hs := h.size
  have hlt := hE.lt
  have bl' : Blk wr w.heap.size (bpart bb k S.N) 47 := h.bl.below hb hs
  refine ⟨?_, by simp; omega, (((bl'.set _ _).to (bpart_step bb k S.N _)).alloc _).alloc _, fun i hi => ?_, fun i hi => ?_, fun i hi => ?_⟩
  · have b := (h.below.trans (hb.mono h.below.size)).setCell (p := ⟨w.heap.size, k, none⟩) (Nat.le_refl _) (.pointer (some ⟨wr.heap.size + 1, 0, none⟩))
    exact (b.alloc (by simp; omega) _).alloc (by simp; omega) _
  · by_cases e : i = k
    · subst e
      rw [upd_same]
      have hz : ((wr.setCell ⟨w.heap.size, i, none⟩ (.pointer (some ⟨wr.heap.size + 1, 0, none⟩))).alloc o1).heap.size = wr.heap.size + 1 := by simp
      have g := heap_alloc_new ((wr.setCell ⟨w.heap.size, i, none⟩ (.pointer (some ⟨wr.heap.size + 1, 0, none⟩))).alloc o1) (.cells #[.slice (some ⟨wk.heap.size, 0, none⟩) (S.L i) (S.L i), .int .i64 0, .int .u64 0, .int .u64 0, .int .u8 0] 66)
      rw [hz] at g
      refine Blk.to g ?_
      simp [bcells, upd_same]
    · have hb1 := h.bk i (by omega)
      have ge := h.ge i (by omega)
      rw [upd_lt _ _ _ _ (by omega)]
      refine ((((hb1.below hb hb1.lt).other _ _ _ (by omega)).alloc _).alloc _).to ?_
      simp [bcells, upd_lt _ _ _ _ (show i < k by omega)]
  · by_cases e : i = k
    · subst e
      rw [upd_same]
      exact ((hE.other _ _ _ (by omega)).alloc _).alloc _
    · have hb1 := h.el i (by omega)
      have ge := h.ge i (by omega)
      rw [upd_lt _ _ _ _ (by omega)]
      exact (((hb1.below hb hb1.lt).other _ _ _ (by omega)).alloc _).alloc _
  · by_cases e : i = k
    · subst e
      rw [upd_same, upd_same]
      omega
    · have ge := h.ge i (by omega)
      rw [upd_lt _ _ _ _ (by omega), upd_lt _ _ _ _ (by omega)]
      exact ge

/-- What build leaves: the sequence's block sb. -/
structure Blt (S : Src) (w w' : World) (sb : Nat) (bb eb : Nat → Nat) : Prop where
  bld : Bld S w w' S.N bb eb
  sq : Blk w' sb #[.slice (some ⟨w.heap.size, 0, none⟩) S.N S.N, .map none, .int .i64 0] 64
  ge : w.heap.size < sb
def BuildAns (S : Src) (w : World) (e : Ending) (w' : World) : Prop := ∃ sb bb eb, e = .returned (.tuple #[.pointer (some ⟨sb, 0, none⟩), .slice (some ⟨w.heap.size, 0, none⟩) S.N S.N]) ∧ Blt S w w' sb bb eb
theorem blt_end {S : Src} {w wr : World} {bb eb : Nat → Nat} (h : Bld S w wr S.N bb eb) : Blt S w (wr.alloc (.cells #[.slice (some ⟨w.heap.size, 0, none⟩) S.N S.N, .map none, .int .i64 0] 64)) wr.heap.size bb eb := by
  refine ⟨⟨h.below.alloc h.below.size _, by have := h.size; simp; omega, h.bl.alloc _, fun i hi => (h.bk i hi).alloc _, fun i hi => (h.el i hi).alloc _, h.ge⟩, heap_alloc_new wr _, h.size⟩

theorem newElement_key (a : Key) (r : Bool) (w : World) :
    Calls Try.prog 15 #[.agg #[.int .u64 a.v, .int .u64 a.o, .int .u8 a.k], .bool r] w fun e w' => e = .returned (.agg #[.int .u64 a.v, .int .u64 a.o, .int .u8 a.k, .bool r]) ∧
      w' = (w.alloc (.cells #[.int .u64 a.v, .int .u64 a.o, .int .u8 a.k] 41)).alloc (.cells #[.int .u64 a.v, .int .u64 a.o, .int .u8 a.k, .bool r] 43) := newElement_any a r w

set_option maxRecDepth 100000 in
set_option maxHeartbeats 4000000 in
theorem build_any (S : Src) (a0 : Option Addr) (cap : Nat) (w : World) (h : In S w a0) (hS : Small S) :
    Calls Try.prog 11 #[.slice a0 S.N cap, .slice none 0 0, .int .i64 0] w fun e w' => BuildAns S w e w' := by
  obtain ⟨hN, hL⟩ := hS
  have hmk := fun (w : World) => run_make_row' (P := Try.prog) 28 47 (.pointer none) 8 Try.underlying28 info47 rfl .i64 .i64 S.N (by omega) (by omega) w
  go_enter Try.func11, Try.ntmps11
  go_wp2_with fail
  go_loopw [9] (fun i wr => ∃ (k : Nat) (bb eb : Nat → Nat), k ≤ S.N ∧ i = .int .i64 k ∧ Bld S w wr k bb eb) (fun i _ => S.N - (intOf i).toNat)
  case atStart => exact ⟨0, fun _ => 0, fun _ => 0, Nat.zero_le _, rfl, bld_start S w _ _⟩
  case round =>
    obtain ⟨k, bb, eb, hk, rfl, hB⟩ := hrel
    obtain ⟨wk, rfl⟩ : ∃ wk, wk = wr := ⟨wr, rfl⟩
    by_cases hlt : k < S.N
    · have ho := h.out (by omega)
      subst ho
      have hin := h.below hB.below
      have bk : (k : Int) < (S.N : Int) := by omega
      have ck := hin.cell k hlt
      have obl := hin.obLt hlt
      have hLk := hL k hlt
      have hme := run_make_els (S.L k) hLk (S.E k) (S.R k)
      go_wp2_with fail
      go_loopw [11] (fun i wz => ∃ j : Nat, j ≤ S.L k ∧ i = .int .i64 j ∧ Blk wz wk.heap.size (epart (S.E k) (S.R k) j (S.L k)) 43 ∧ Below wk.heap.size wk wz ∧ wk.heap.size < wz.heap.size) (fun i _ => S.L k - (intOf i).toNat)
      case atStart => exact ⟨0, Nat.zero_le _, rfl, heap_alloc_new wk _, (Below.refl _ _).alloc (Nat.le_refl _) _, by simp⟩
      case round =>
        obtain ⟨j, hj, rfl, hE, hb, hz⟩ := hrel
        have hin2 := hin.below hb
        have ck2 := hin2.cell k hlt
        have obl2 := hin2.obLt hlt
        by_cases hlj : j < S.L k
        · have eA := h.row k hlt (by omega)
          rw [eA] at ck2
          clear eA
          have bj : (j : Int) < (S.L k : Int) := by omega
          have e0 := hin2.el0 k j hlt hlj
          have e1 := hin2.el1 k j hlt hlj
          have e2 := hin2.el2 k j hlt hlj
          have e3 := hin2.el3 k j hlt hlj
          have rbl := hin2.rbLt hlt hlj
          have ob1 : S.ob < wr.heap.size + 1 := by omega
          have ob2 : S.ob < wr.heap.size + 1 + 1 := by omega
          have rb1 : S.rb k < wr.heap.size + 1 := by omega
          have rb2 : S.rb k < wr.heap.size + 1 + 1 := by omega
          have z1 : wk.heap.size < wr.heap.size + 1 := by omega
          have z2 : wk.heap.size < wr.heap.size + 1 + 1 := by omega
          have z3 : wk.heap.size < wr.heap.size + 1 + 1 + 1 := by omega
          obtain ⟨v0, t0⟩ := epart_at (S.E k) (S.R k) j (S.L k) (j * 4) (by omega)
          obtain ⟨v1, t1⟩ := epart_at (S.E k) (S.R k) j (S.L k) (j * 4 + 1) (by omega)
          obtain ⟨v2, t2⟩ := epart_at (S.E k) (S.R k) j (S.L k) (j * 4 + 2) (by omega)
          obtain ⟨v3, t3⟩ := epart_at (S.E k) (S.R k) j (S.L k) (j * 4 + 3) (by omega)
          replace t0 := hE.cell _ _ t0
          replace t1 := hE.cell _ _ t1
          replace t2 := hE.cell _ _ t2
          replace t3 := hE.cell _ _ t3
          have f0 := hE.frozen
          clear hB h hmk hme hin hin2 ck obl
          go_wp2_with fail
          go_region_with (first | (go_at_call 16; refine (uuidOf_key (S.E k j) _ _).mono ?_; rintro e w' ⟨rfl, rfl⟩) | (go_at_call 15; refine (newElement_key (S.E k j) _ _).mono ?_; rintro e w' ⟨rfl, rfl⟩))
          all_goals go_wp2
          all_goals
            go_roundw
            case rel => exact ⟨j + 1, by omega, by go_num, els_step hE hb _ _ _ _⟩
            case measure => simp [intOf]; omega
        · obtain rfl : j = S.L k := by omega
          have c0 : ¬ (k : Int) < 0 := by omega
          have hw1 : w.heap.size < wr.heap.size := by have := hB.size; omega
          have hw2 : w.heap.size < wr.heap.size + 1 := by omega
          have bl' : Blk wr w.heap.size (bpart bb k S.N) 47 := hB.bl.below hb hB.size
          have tb : wr.cell? ⟨w.heap.size, k, none⟩ = some (.pointer none) := bl'.cell k _ (by rw [bpart_get, if_pos hlt, if_neg (by omega)])
          have fb := bl'.frozen k
          have hBE : Bld S w wk k bb eb ∧ Blk wr wk.heap.size (epart (S.E k) (S.R k) (S.L k) (S.L k)) 43 ∧ Below wk.heap.size wk wr := ⟨hB, hE, hb⟩
          clear hme hmk h hin hin2 bl' hB hE
          go_wp2_with (go_at_call 18; refine (newBlock_any _ _ _ _ _).mono ?_; rintro e w' ⟨rfl, rfl⟩)
          go_roundw
          case rel => exact ⟨k + 1, _, _, by omega, by go_num, bld_step hBE.1 hBE.2.1 hBE.2.2 _⟩
          case measure => simp [intOf]; omega
    · obtain rfl : k = S.N := by omega
      go_wp2_with fail
      refine (newSequence_any _ _ _ _ _).mono ?_
      rintro e w' ⟨rfl, rfl⟩
      go_wp2
      go_ret2
      exact ⟨_, bb, eb, rfl, blt_end hB⟩
end Go.Proofs.Qxb6603828a
