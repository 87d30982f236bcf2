/-
  Front, ZZNext, ZZPrev, ZZSince, zzSorted: what is read off the queue and off the argument.
-/
import Derived.Test.Qxb6604623aState
import Derived.Test.Qxb6604623aCopy
import Derived.Deep.QuietTactic
import Derived.BigQuiet
import Derived.WideShapes
import Derived.ChangeShapes
namespace Go.Proofs.Qxb6604623a
open Go.RowKit

theorem next_any (b : Nat) (u : Option Addr) (p s c : Value) (w : World) (h : Blk w b #[.pointer u, p, s, c] 61) :
    Calls Try.prog 34 #[.pointer (some ⟨b, 0, none⟩)] w fun e w' => e = .returned (.pointer u) ∧ w' = w := by
  have h0 := h.cell 0 (.pointer u) rfl
  clear h
  go_enter Try.func34, Try.ntmps34
  go_wp2
  go_ret
  exact ⟨rfl, rfl⟩
theorem prev_any (b : Nat) (u : Option Addr) (p s c : Value) (w : World) (h : Blk w b #[p, .pointer u, s, c] 61) :
    Calls Try.prog 35 #[.pointer (some ⟨b, 0, none⟩)] w fun e w' => e = .returned (.pointer u) ∧ w' = w := by
  have h0 := h.cell 1 (.pointer u) rfl
  clear h
  go_enter Try.func35, Try.ntmps35
  go_wp2
  go_ret
  exact ⟨rfl, rfl⟩
theorem since_any (b : Nat) (z : Int) (p s c : Value) (w : World) (h : Blk w b #[p, s, .int .i64 z, c] 61) :
    Calls Try.prog 36 #[.pointer (some ⟨b, 0, none⟩)] w fun e w' => e = .returned (.int .i64 z) ∧ w' = w := by
  have h0 := h.cell 2 (.int .i64 z) rfl
  clear h
  go_enter Try.func36, Try.ntmps36
  go_wp2
  go_ret
  exact ⟨rfl, rfl⟩
/-- Front on a queue with a head. -/
theorem front_any (q b : Nat) (g : Int) (tl : Value) (o z : Int) (p s c : Value) (w : World) (hq : Blk w q (qcells g (.pointer (some ⟨b, 0, none⟩)) tl o) 33) (h : Blk w b #[p, s, .int .i64 z, c] 61) :
    Calls Try.prog 22 #[.pointer (some ⟨q, 0, none⟩)] w fun e w' => e = .returned (.int .i64 z) ∧ w' = w := by
  have h0 := hq.cell 1 (.pointer (some ⟨b, 0, none⟩)) rfl
  have h1 := h.cell 2 (.int .i64 z) rfl
  clear h hq
  go_enter Try.func22, Try.ntmps22
  go_wp2
  go_ret
  exact ⟨rfl, rfl⟩

section
variable {w : World} {q B n : Nat} {Z : Nat → Int} {g : Int} {al : Nat → Bool} {hd tl : Option Nat} {nx pv : Nat → Option Nat}
theorem QSt.next (h : QSt w q B n Z g al hd tl nx pv) (j : Nat) (hj : j < n) : Calls Try.prog 34 #[.pointer (some ⟨B + j, 0, none⟩)] w fun e w' => e = .returned (.pointer (wp B (nx j))) ∧ w' = w := next_any _ _ _ _ _ w (h.nb j hj)
theorem QSt.prev (h : QSt w q B n Z g al hd tl nx pv) (j : Nat) (hj : j < n) : Calls Try.prog 35 #[.pointer (some ⟨B + j, 0, none⟩)] w fun e w' => e = .returned (.pointer (wp B (pv j))) ∧ w' = w := prev_any _ _ _ _ _ w (h.nb j hj)
theorem QSt.since (h : QSt w q B n Z g al hd tl nx pv) (j : Nat) (hj : j < n) : Calls Try.prog 36 #[.pointer (some ⟨B + j, 0, none⟩)] w fun e w' => e = .returned (.int .i64 (Z j)) ∧ w' = w := since_any _ _ _ _ _ w (h.nb j hj)
theorem QSt.front (h : QSt w q B n Z g al hd tl nx pv) (j : Nat) (e : hd = some j) : Calls Try.prog 22 #[.pointer (some ⟨q, 0, none⟩)] w fun e w' => e = .returned (.int .i64 (Z j)) ∧ w' = w := by
  subst e
  exact front_any q (B + j) g _ _ (Z j) _ _ _ w h.qb (h.nb j (h.lk.hd_live rfl).1)
end

/-- WHAT A SLICE OF int64 THAT CAME IN IS: nil, or its cells lie in memory. -/
def In (w : World) (so : Option Addr) (n cap : Nat) (Z : Nat → Int) : Prop :=
  (so = none ∧ n = 0 ∧ cap = 0) ∨ ∃ b off s, so = some ⟨b, off, s⟩ ∧ (0 < n → s = none) ∧ ∀ i, i < n → w.cell? ⟨b, off + i, none⟩ = some (.int .i64 (Z i))
theorem in_of_cells {w : World} {x : Addr} {n cap : Nat} {zs : List Int} (hl : n ≤ zs.length) (hc : ∀ i, i < zs.length → w.cell? (x.add i) = some (.int .i64 (zs.getD i 0))) : In w (some x) n cap (fun i => zs.getD i 0) := by
  obtain ⟨b, off, s⟩ := x
  have hs : 0 < n → s = none := fun h => by simpa [Addr.add] using World.cell?_spot (hc 0 (by omega))
  refine .inr ⟨b, off, s, rfl, hs, fun i hi => ?_⟩
  have h := hc i (by omega)
  rw [hs (by omega)] at h
  rwa [WideShapes.add_plain] at h
/-- A row of the call's own: block c (of no interest where there is no element). -/
structure Own (w : World) (so : Option Addr) (c n : Nat) (Z : Nat → Int) : Prop where
  at_ : 0 < n → so = some ⟨c, 0, none⟩
  cells : ∀ i, i < n → w.cell? ⟨c, i, none⟩ = some (.int .i64 (Z i))

theorem In.drewN {w : World} {so : Option Addr} {n cap : Nat} {Z : Nat → Int} (h : In w so n cap Z) (m : Nat) : In (w.drewN m) so n cap Z := h

theorem copyL_any (so : Option Addr) (n cap : Nat) (Z : Nat → Int) (w : World) (hn : n ≤ 65536) (h : In w so n cap Z) :
    Calls Try.prog 20 #[.slice so n cap] w fun e w' => ∃ so' cp', e = .returned (.slice so' n cp') ∧ Own w' so' w.heap.size n Z ∧ Below w.heap.size w w' ∧ (0 < n → w.heap.size < w'.heap.size) := by
  rcases h with ⟨rfl, rfl, rfl⟩ | ⟨b, off, s, rfl, hs, hc⟩
  · refine (copyL_nil w).mono ?_
    rintro e w' ⟨rfl, rfl⟩
    exact ⟨none, 0, rfl, ⟨fun h => by omega, fun i hi => by omega⟩, Below.refl _ _, fun h => by omega⟩
  · refine (copyL_some b off s n cap Z w hn hs hc).mono ?_
    rintro e w' ⟨rfl, rfl⟩
    exact ⟨_, _, rfl, ⟨fun _ => rfl, fun i hi => by rw [World.cell?_alloc_new, full_get]; simp [hi]⟩, (Below.refl _ _).alloc (Nat.le_refl _) _, fun _ => by simp⟩

theorem copyI_any (so : Option Addr) (n cap : Nat) (Z : Nat → Int) (w : World) (hn : n ≤ 65536) (h : In w so n cap Z) :
    Calls Try.prog 28 #[.slice so n cap] w fun e w' => ∃ so' cp', e = .returned (.slice so' n cp') ∧ Own w' so' w.heap.size n Z ∧ Below w.heap.size w w' ∧ (0 < n → w.heap.size < w'.heap.size) := by
  rcases h with ⟨rfl, rfl, rfl⟩ | ⟨b, off, s, rfl, hs, hc⟩
  · refine (copyI_nil w).mono ?_
    rintro e w' ⟨rfl, rfl⟩
    exact ⟨none, 0, rfl, ⟨fun h => by omega, fun i hi => by omega⟩, Below.refl _ _, fun h => by omega⟩
  · refine (copyI_some b off s n cap Z w hn hs hc).mono ?_
    rintro e w' ⟨rfl, rfl⟩
    exact ⟨_, _, rfl, ⟨fun _ => rfl, fun i hi => by rw [World.cell?_alloc_new, full_get]; simp [hi]⟩, (Below.refl _ _).alloc (Nat.le_refl _) _, fun _ => by simp⟩

/-- In order: no later one ahead of an earlier one. -/
def Sorted (Z : Nat → Int) (n : Nat) : Prop := ∀ k, 0 < k → k < n → Z (k - 1) ≤ Z k

set_option maxHeartbeats 1000000 in
theorem sorted_row (b off : Nat) (s : Option Nat) (n cap : Nat) (Z : Nat → Int) (w : World) (hn : n ≤ 65536) (hs : 0 < n → s = none) (hc : ∀ i, i < n → w.cell? ⟨b, off + i, none⟩ = some (.int .i64 (Z i))) :
    Calls Try.prog 19 #[.slice (some ⟨b, off, s⟩) n cap] w fun e w' => ∃ r m, e = .returned (.bool r) ∧ w' = w.drewN m ∧ (r = true → Sorted Z n) := by
  go_enter Try.func19, Try.ntmps19
  go_wp2
  go_loopw [3] (fun i wr => ∃ k m : Nat, 1 ≤ k ∧ k ≤ n + 1 ∧ i = .int .i64 k ∧ wr = w.drewN m ∧ Hid (Sorted Z k)) (fun i _ => n + 1 - (intOf i).toNat)
  case atStart => exact ⟨1, 0, by omega, by omega, rfl, rfl, fun k a b => by omega⟩
  case round =>
    obtain ⟨k, m, hk1, hk2, rfl, rfl, hS⟩ := hrel
    obtain ⟨k, rfl⟩ : ∃ k', k = k' + 1 := ⟨k - 1, by omega⟩
    by_cases hlt : k + 1 < n
    · have hs0 := hs (by omega)
      subst hs0
      have c1 := hc (k + 1) hlt
      have c0 := hc k (by omega)
      have b1 : (k : Int) + 1 < (n : Int) := by omega
      have b0 : (k : Int) < (n : Int) := by omega
      clear hc hs hlt
      by_cases hz : Z (k + 1) < Z k
      · go_wp2
        go_quiet (fail)
        go_wp2
        go_ret
        exact ⟨false, _, rfl, World.drewN_drewN .., fun h => by cases h⟩
      · have hz' : Z k ≤ Z (k + 1) := by omega
        go_wp2
        go_quiet (fail)
        go_wp2
        go_roundw
        case rel =>
          refine ⟨k + 1 + 1, _, by omega, by omega, by go_num, rfl, fun j a b => ?_⟩
          by_cases e : j = k + 1
          · subst e; exact hz'
          · exact hS.out j a (by omega)
        case measure => simp [intOf]; omega
    · go_wp2
      go_ret
      exact ⟨true, _, rfl, rfl, fun _ j a b => hS.out j a (by omega)⟩

set_option maxHeartbeats 1000000 in
theorem sorted_any (so : Option Addr) (n cap : Nat) (Z : Nat → Int) (w : World) (hn : n ≤ 65536) (h : In w so n cap Z) :
    Calls Try.prog 19 #[.slice so n cap] w fun e w' => ∃ r m, e = .returned (.bool r) ∧ w' = w.drewN m ∧ (r = true → Sorted Z n) := by
  rcases h with ⟨rfl, rfl, rfl⟩ | ⟨b, off, s, rfl, hs, hc⟩
  · go_enter Try.func19, Try.ntmps19
    go_wp2
    refine wp_loop_rounds 1 ?_
    rw [rounds_succ]
    go_wp2
    go_ret
    exact ⟨true, 0, rfl, rfl, fun _ k a b => by omega⟩
  · exact sorted_row b off s n cap Z w hn hs hc
end Go.Proofs.Qxb6604623a
