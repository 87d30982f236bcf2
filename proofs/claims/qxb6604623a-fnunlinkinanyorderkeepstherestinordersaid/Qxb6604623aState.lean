/-
  The queue in memory: the state of its blocks, told by the plain links; unlink takes one place out.
-/
import Derived.Test.Qxb6604623aLinks
import Derived.Test.Qxb6604623aUnlink
namespace Go.Proofs.Qxb6604623a
open Go.RowKit

theorem Blk.set {w : World} {b : Nat} {cs : Array Value} {t : TypeId} (h : Blk w b cs t) (i : Nat) (v : Value) : Blk (w.setCell ⟨b, i, none⟩ v) b (cs.setIfInBounds i v) t :=
  heap_setCell_same w b i cs t v h
theorem Blk.other {w : World} {b : Nat} {cs : Array Value} {t : TypeId} (h : Blk w b cs t) (c i : Nat) (v : Value) (hne : b ≠ c) : Blk (w.setCell ⟨c, i, none⟩ v) b cs t :=
  (heap_setCell_other w ⟨c, i, none⟩ b v hne).trans h
theorem Blk.drewN {w : World} {b : Nat} {cs : Array Value} {t : TypeId} (h : Blk w b cs t) (m : Nat) : Blk (w.drewN m) b cs t := h
theorem Blk.to {w : World} {b : Nat} {cs cs' : Array Value} {t : TypeId} (h : Blk w b cs t) (e : cs = cs') : Blk w b cs' t := e ▸ h

/-- The address of the waiter at a place. -/
def wp (B : Nat) (o : Option Nat) : Option Addr := o.map fun k => ⟨B + k, 0, none⟩
theorem wp_none (B : Nat) : wp B none = none := rfl
theorem wp_some (B k : Nat) : wp B (some k) = some ⟨B + k, 0, none⟩ := rfl
/-- What 'oldest' holds. -/
def old (Z : Nat → Int) : Option Nat → Int
  | none => 0
  | some k => Z k
/-- The cells of the waiter at place j. -/
def ncells (B : Nat) (Z : Nat → Int) (nx pv : Nat → Option Nat) (j : Nat) : Array Value := #[.pointer (wp B (nx j)), .pointer (wp B (pv j)), .int .i64 (Z j), .chan none]

/-- The queue's block is q; the waiters' blocks are B .. B + n - 1. -/
structure QSt (w : World) (q B n : Nat) (Z : Nat → Int) (g : Int) (al : Nat → Bool) (hd tl : Option Nat) (nx pv : Nat → Option Nat) : Prop where
  lk : Lk al n hd tl nx pv
  qb : Blk w q (qcells g (.pointer (wp B hd)) (.pointer (wp B tl)) (old Z hd)) 33
  nb : ∀ j, j < n → Blk w (B + j) (ncells B Z nx pv j) 61

/-- Nothing but the queue's and the waiters' blocks has turned; none was made. -/
structure Fr (q B n : Nat) (w w' : World) : Prop where
  os : w'.os = w.os
  tape : w'.tape = w.tape
  output : w'.output = w.output
  size : w'.heap.size = w.heap.size
  block : ∀ b, b ≠ q → (b < B ∨ B + n ≤ b) → w'.heap[b]? = w.heap[b]?

theorem Fr.refl (q B n : Nat) (w : World) : Fr q B n w w := ⟨rfl, rfl, rfl, rfl, fun _ _ _ => rfl⟩
theorem Fr.trans {q B n : Nat} {a b c : World} (h : Fr q B n a b) (k : Fr q B n b c) : Fr q B n a c :=
  ⟨k.os.trans h.os, k.tape.trans h.tape, k.output.trans h.output, k.size.trans h.size, fun x y z => (k.block x y z).trans (h.block x y z)⟩
theorem Fr.drewN {q B n : Nat} {a b : World} (h : Fr q B n a b) (m : Nat) : Fr q B n a (b.drewN m) := ⟨h.os, h.tape, h.output, h.size, h.block⟩
theorem Fr.setq {q B n : Nat} {a b : World} (h : Fr q B n a b) (i : Nat) (v : Value) : Fr q B n a (b.setCell ⟨q, i, none⟩ v) :=
  h.trans ⟨rfl, rfl, rfl, by simp, fun x y _ => heap_setCell_other b ⟨q, i, none⟩ x v y⟩
theorem Fr.setn {q B n : Nat} {a b : World} (h : Fr q B n a b) (k i : Nat) (v : Value) (hk : k < n) : Fr q B n a (b.setCell ⟨B + k, i, none⟩ v) :=
  h.trans ⟨rfl, rfl, rfl, by simp, fun x _ z => heap_setCell_other b ⟨B + k, i, none⟩ x v (by show x ≠ B + k; omega)⟩
theorem Fr.below {q B n : Nat} {a b c : World} {M : Nat} (h : Below M a b) (k : Fr q B n b c) (hq : M ≤ q) (hB : M ≤ B) : Below M a c :=
  h.trans ⟨k.os, k.tape, k.output, by rw [k.size]; exact Nat.le_refl _, fun x y => k.block x (by omega) (by omega)⟩

theorem QSt.drewN {w : World} {q B n : Nat} {Z : Nat → Int} {g : Int} {al : Nat → Bool} {hd tl : Option Nat} {nx pv : Nat → Option Nat} (h : QSt w q B n Z g al hd tl nx pv) (m : Nat) : QSt (w.drewN m) q B n Z g al hd tl nx pv :=
  ⟨h.lk, h.qb, h.nb⟩
/-- The guard's cell is written. -/
theorem QSt.guard {w : World} {q B n : Nat} {Z : Nat → Int} {g : Int} {al : Nat → Bool} {hd tl : Option Nat} {nx pv : Nat → Option Nat} (h : QSt w q B n Z g al hd tl nx pv) (hq : q < B) (g' : Int) :
    QSt (w.setCell ⟨q, 0, none⟩ (.int .u32 g')) q B n Z g' al hd tl nx pv :=
  ⟨h.lk, (h.qb.set 0 _).to rfl, fun j hj => (h.nb j hj).other q 0 _ (by omega)⟩

theorem unlink_state {w : World} {q B n : Nat} {Z : Nat → Int} {g : Int} {al : Nat → Bool} {hd tl : Option Nat} {nx pv : Nat → Option Nat} (h : QSt w q B n Z g al hd tl nx pv) (hq : q < B)
    (j : Nat) (hj : j < n) (aj : al j = true) :
    Calls Try.prog 37 #[.pointer (some ⟨q, 0, none⟩), .pointer (some ⟨B + j, 0, none⟩)] w fun e w' => e = .returned (.tuple #[]) ∧
      QSt w' q B n Z g (kill al j) (hdOff hd nx pv j) (tlOff tl nx pv j) (nxOff nx pv j) (pvOff nx pv j) ∧ Fr q B n w w' := by
  have bj := h.nb j hj
  have L := h.lk.off hj aj
  cases ep : pv j with
  | none =>
    cases en : nx j with
    | none =>
      have H := unlink_alone q (B + j) w (by omega) (bj.cell 0 _ (by simp [ncells, en]; rfl)) (bj.cell 1 _ (by simp [ncells, ep]; rfl)) (bj.frozen 0) (bj.frozen 1)
        _ (h.qb.cell 1 _ rfl) (h.qb.frozen 1) _ (h.qb.cell 2 _ rfl) (h.qb.frozen 2) _ (h.qb.cell 3 _ rfl) (h.qb.frozen 3)
      refine H.mono ?_
      rintro e w' ⟨rfl, m, rfl⟩
      refine ⟨rfl, ⟨L, ?_, ?_⟩, ?_⟩
      · refine Blk.drewN (Blk.to (Blk.other (Blk.other (((h.qb.set 1 _).set 3 _).set 2 _) (B + j) 0 _ (by omega)) (B + j) 1 _ (by omega)) ?_) m
        simp [hdOff, tlOff, ep, en, qcells, wp_none, old]
      · intro i hi
        have bi := ((((h.nb i hi).other q 1 (.pointer none) (by omega)).other q 3 (.int .i64 0) (by omega)).other q 2 (.pointer none) (by omega))
        by_cases e : i = j
        · subst e
          refine Blk.drewN (Blk.to ((bi.set 0 _).set 1 _) ?_) m
          simp [ncells, nxOff, pvOff, wp_none]
        · refine Blk.drewN (Blk.to ((bi.other (B + j) 0 _ (by omega)).other (B + j) 1 _ (by omega)) ?_) m
          simp [ncells, nxOff, pvOff, e, ep, en]
      · exact (((((Fr.refl q B n w).setq 1 _).setq 3 _).setq 2 _).setn j 0 _ hj |>.setn j 1 _ hj).drewN m
    | some y =>
      obtain ⟨hjy, hyn, ay, py⟩ := h.lk.prev_of hj aj en
      have by_ := h.nb y hyn
      have H := unlink_head q (B + j) (B + y) w (by omega) (by omega) (by omega) (bj.cell 0 _ (by simp [ncells, en]; rfl)) (bj.cell 1 _ (by simp [ncells, ep]; rfl)) (bj.frozen 0) (bj.frozen 1)
        _ (by_.cell 1 _ rfl) (by_.frozen 1) (Z y) (by_.cell 2 _ rfl) _ (h.qb.cell 1 _ rfl) (h.qb.frozen 1) _ (h.qb.cell 3 _ rfl) (h.qb.frozen 3)
      refine H.mono ?_
      rintro e w' ⟨rfl, m, rfl⟩
      refine ⟨rfl, ⟨L, ?_, ?_⟩, ?_⟩
      · refine Blk.drewN (Blk.to (Blk.other (Blk.other (Blk.other ((h.qb.set 1 _).set 3 _) (B + y) 1 _ (by omega)) (B + j) 0 _ (by omega)) (B + j) 1 _ (by omega)) ?_) m
        simp [hdOff, tlOff, ep, en, qcells, wp_some, old]
      · intro i hi
        have bi := (((h.nb i hi).other q 1 (.pointer (some ⟨B + y, 0, none⟩)) (by omega)).other q 3 (.int .i64 (Z y)) (by omega))
        by_cases e : i = j
        · subst e
          refine Blk.drewN (Blk.to (((bi.other (B + y) 1 _ (by omega)).set 0 _).set 1 _) ?_) m
          simp [ncells, nxOff, pvOff, wp_none]
        · by_cases e2 : i = y
          · subst e2
            refine Blk.drewN (Blk.to (((bi.set 1 _).other (B + j) 0 _ (by omega)).other (B + j) 1 _ (by omega)) ?_) m
            simp [ncells, nxOff, pvOff, wp_none, e, ep, en]
          · have e3 : ¬ y = i := fun x => e2 x.symm
            refine Blk.drewN (Blk.to (((bi.other (B + y) 1 _ (by omega)).other (B + j) 0 _ (by omega)).other (B + j) 1 _ (by omega)) ?_) m
            simp [ncells, nxOff, pvOff, e, ep, en, e3]
      · exact (((((Fr.refl q B n w).setq 1 _).setq 3 _).setn y 1 _ hyn).setn j 0 _ hj |>.setn j 1 _ hj).drewN m
  | some p =>
    obtain ⟨hpj, ap, np⟩ := h.lk.next_of hj aj ep
    have hpn : p < n := by omega
    have bp := h.nb p hpn
    cases en : nx j with
    | none =>
      have H := unlink_tail q (B + j) (B + p) w (by omega) (by omega) (by omega) (bj.cell 0 _ (by simp [ncells, en]; rfl)) (bj.cell 1 _ (by simp [ncells, ep]; rfl)) (bj.frozen 0) (bj.frozen 1)
        _ (bp.cell 0 _ rfl) (bp.frozen 0) _ (h.qb.cell 2 _ rfl) (h.qb.frozen 2)
      refine H.mono ?_
      rintro e w' ⟨rfl, m, rfl⟩
      refine ⟨rfl, ⟨L, ?_, ?_⟩, ?_⟩
      · refine Blk.drewN (Blk.to (Blk.other (Blk.other ((Blk.other h.qb (B + p) 0 _ (by omega)).set 2 _) (B + j) 0 _ (by omega)) (B + j) 1 _ (by omega)) ?_) m
        simp [hdOff, tlOff, ep, en, qcells, wp_some]
      · intro i hi
        by_cases e : i = j
        · subst e
          refine Blk.drewN (Blk.to (((((h.nb i hi).other (B + p) 0 _ (by omega)).other q 2 _ (by omega)).set 0 _).set 1 _) ?_) m
          simp [ncells, nxOff, pvOff, wp_none]
        · by_cases e2 : i = p
          · subst e2
            refine Blk.drewN (Blk.to (((((h.nb i hi).set 0 _).other q 2 _ (by omega)).other (B + j) 0 _ (by omega)).other (B + j) 1 _ (by omega)) ?_) m
            simp [ncells, nxOff, pvOff, wp_none, e, ep, en]
          · have e3 : ¬ p = i := fun x => e2 x.symm
            refine Blk.drewN (Blk.to (((((h.nb i hi).other (B + p) 0 _ (by omega)).other q 2 _ (by omega)).other (B + j) 0 _ (by omega)).other (B + j) 1 _ (by omega)) ?_) m
            simp [ncells, nxOff, pvOff, e, ep, en, e3]
      · exact ((((Fr.refl q B n w).setn p 0 _ hpn).setq 2 _).setn j 0 _ hj |>.setn j 1 _ hj).drewN m
    | some y =>
      obtain ⟨hjy, hyn, ay, py⟩ := h.lk.prev_of hj aj en
      have by_ := h.nb y hyn
      have H := unlink_mid q (B + j) (B + p) (B + y) w (by omega) (by omega) (by omega) (bj.cell 0 _ (by simp [ncells, en]; rfl)) (bj.cell 1 _ (by simp [ncells, ep]; rfl)) (bj.frozen 0) (bj.frozen 1)
        _ (bp.cell 0 _ rfl) (bp.frozen 0) _ (by_.cell 1 _ rfl) (by_.frozen 1)
      refine H.mono ?_
      rintro e w' ⟨rfl, m, rfl⟩
      refine ⟨rfl, ⟨L, ?_, ?_⟩, ?_⟩
      · refine Blk.drewN (Blk.to (Blk.other (Blk.other (Blk.other (Blk.other h.qb (B + p) 0 _ (by omega)) (B + y) 1 _ (by omega)) (B + j) 0 _ (by omega)) (B + j) 1 _ (by omega)) ?_) m
        simp [hdOff, tlOff, ep, en]
      · intro i hi
        by_cases e : i = j
        · subst e
          refine Blk.drewN (Blk.to (((((h.nb i hi).other (B + p) 0 _ (by omega)).other (B + y) 1 _ (by omega)).set 0 _).set 1 _) ?_) m
          simp [ncells, nxOff, pvOff, wp_none]
        · by_cases e2 : i = p
          · subst e2
            have e4 : ¬ y = i := by omega
            refine Blk.drewN (Blk.to (((((h.nb i hi).set 0 _).other (B + y) 1 _ (by omega)).other (B + j) 0 _ (by omega)).other (B + j) 1 _ (by omega)) ?_) m
            simp [ncells, nxOff, pvOff, wp_some, e, ep, en, e4]
          · have e3 : ¬ p = i := fun x => e2 x.symm
            by_cases e5 : i = y
            · subst e5
              refine Blk.drewN (Blk.to (((((h.nb i hi).other (B + p) 0 _ (by omega)).set 1 _).other (B + j) 0 _ (by omega)).other (B + j) 1 _ (by omega)) ?_) m
              simp [ncells, nxOff, pvOff, wp_some, e, ep, en, e3]
            · have e6 : ¬ y = i := fun x => e5 x.symm
              refine Blk.drewN (Blk.to (((((h.nb i hi).other (B + p) 0 _ (by omega)).other (B + y) 1 _ (by omega)).other (B + j) 0 _ (by omega)).other (B + j) 1 _ (by omega)) ?_) m
              simp [ncells, nxOff, pvOff, e, ep, en, e3, e6]
      · exact ((((Fr.refl q B n w).setn p 0 _ hpn).setn y 1 _ hyn).setn j 0 _ hj |>.setn j 1 _ hj).drewN m

theorem zzUnlink_state {w : World} {q B n : Nat} {Z : Nat → Int} {g : Int} {al : Nat → Bool} {hd tl : Option Nat} {nx pv : Nat → Option Nat} (h : QSt w q B n Z g al hd tl nx pv) (hq : q < B)
    (j : Nat) (hj : j < n) (aj : al j = true) :
    Calls Try.prog 25 #[.pointer (some ⟨q, 0, none⟩), .pointer (some ⟨B + j, 0, none⟩)] w fun e w' => e = .returned (.tuple #[]) ∧
      QSt w' q B n Z g (kill al j) (hdOff hd nx pv j) (tlOff tl nx pv j) (nxOff nx pv j) (pvOff nx pv j) ∧ Fr q B n w w' := by
  have H := unlink_state h hq j hj aj
  have HH : Hid (Calls Try.prog 37 #[.pointer (some ⟨q, 0, none⟩), .pointer (some ⟨B + j, 0, none⟩)] w fun e w' => e = .returned (.tuple #[]) ∧
      QSt w' q B n Z g (kill al j) (hdOff hd nx pv j) (tlOff tl nx pv j) (nxOff nx pv j) (pvOff nx pv j) ∧ Fr q B n w w') := H
  clear H h hq hj aj
  go_enter Try.func25, Try.ntmps25
  go_wp2_with fail
  refine HH.out.mono ?_
  rintro e w' ⟨rfl, h1, h2⟩
  go_wp2
  go_end0
  exact ⟨rfl, h1, h2⟩
end Go.Proofs.Qxb6604623a
