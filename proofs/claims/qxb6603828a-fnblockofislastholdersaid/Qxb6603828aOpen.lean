/-
  From the reading of the argument to what lies in memory.
-/
import Derived.Test.Qxb6603828aSrc
import Derived.Deep.Slices
import Derived.ProofKit
namespace Go.Proofs.Qxb6603828a
open Go.RowKit Go.ChangeShapes Go.WideShapes

theorem cells33 : Try.prog.cellsOf 33 = 1 := by kernel_rfl
theorem cells36 : Try.prog.cellsOf 36 = 4 := by kernel_rfl
theorem cells34 : Try.prog.cellsOf 34 = 1 := by kernel_rfl
theorem cells5 : Try.prog.cellsOf 5 = 1 := by kernel_rfl
theorem cells4 : Try.prog.cellsOf 4 = 1 := by kernel_rfl

section
variable {H : Type} {enc : TypeId × Value → H} {w : World} {base : Nat} {spare : Nat → Bool} {held : Bool}

/-- An element's cells. -/
theorem elem_of {n : Nat} {cs : List Value} {x : DataW H × List MemPlace} (h : DataW.trod enc Try.prog w base spare held n 36 cs = some x) :
    ∃ (a : Key) (r : Bool), cs = [.int .u64 a.v, .int .u64 a.o, .int .u8 a.k, .bool r] := by
  obtain ⟨xs, m, _, _, hl, hlen, hf⟩ := DataW.trod_struct Try.underlying36 h
  rw [cells36] at hl
  match cs, hl with
  | [c0, c1, c2, c3], _ =>
    match xs, hlen with
    | [y0, y1, y2, y3], _ =>
      have f0 : DataW.trod enc Try.prog w base spare held m 34 (([c0, c1, c2, c3].drop 0).take (Try.prog.cellsOf 34)) = some y0 := hf 0 _ rfl
      have f1 : DataW.trod enc Try.prog w base spare held m 34 (([c0, c1, c2, c3].drop 1).take (Try.prog.cellsOf 34)) = some y1 := hf 1 _ rfl
      have f2 : DataW.trod enc Try.prog w base spare held m 5 (([c0, c1, c2, c3].drop 2).take (Try.prog.cellsOf 5)) = some y2 := hf 2 _ rfl
      have f3 : DataW.trod enc Try.prog w base spare held m 4 (([c0, c1, c2, c3].drop 3).take (Try.prog.cellsOf 4)) = some y3 := hf 3 _ rfl
      rw [cells34] at f0 f1
      rw [cells5] at f2
      rw [cells4] at f3
      simp at f0 f1 f2 f3
      obtain ⟨v, e0, _, _⟩ := DataW.trod_int Try.underlying34 f0
      obtain ⟨o, e1, _, _⟩ := DataW.trod_int Try.underlying34 f1
      obtain ⟨k, e2, _, _⟩ := DataW.trod_int Try.underlying5 f2
      obtain ⟨r, e3, _⟩ := DataW.trod_bool Try.underlying4 f3
      simp at e0 e1 e2 e3
      subst e0 e1 e2 e3
      exact ⟨⟨v, o, k⟩, r, rfl⟩

/-- A row: its slice, where its cells begin, its elements. -/
structure RowD where
  A : Option Addr
  L : Nat
  C : Nat
  rb : Nat
  ro : Nat
  E : Nat → Key
  R : Nat → Bool
structure RowOk (w : World) (V : Value) (d : RowD) : Prop where
  val : V = .slice d.A d.L d.C
  row : 0 < d.L → d.A = some ⟨d.rb, d.ro, none⟩
  len : d.L ≤ 9223372036854775807
  el0 : ∀ j, j < d.L → w.cell? ⟨d.rb, d.ro + j * 4, none⟩ = some (.int .u64 (d.E j).v)
  el1 : ∀ j, j < d.L → w.cell? ⟨d.rb, d.ro + j * 4 + 1, none⟩ = some (.int .u64 (d.E j).o)
  el2 : ∀ j, j < d.L → w.cell? ⟨d.rb, d.ro + j * 4 + 2, none⟩ = some (.int .u8 (d.E j).k)
  el3 : ∀ j, j < d.L → w.cell? ⟨d.rb, d.ro + j * 4 + 3, none⟩ = some (.bool (d.R j))

theorem row_of {n : Nat} {V : Value} {x : DataW H × List MemPlace} (h : DataW.trod enc Try.prog w base (fun _ => true) held n 33 [V] = some x) : ∃ d : RowD, RowOk w V d := by
  rcases Go.Deep.open_slice Try.underlying33 h with ⟨hcs, _⟩ | ⟨a, len, cap, m, n', D, Pl, hcs, _, hl, hm, hmm, _, hel⟩
  · simp at hcs
    exact ⟨⟨none, 0, 0, 0, 0, fun _ => ⟨0, 0, 0⟩, fun _ => false⟩, hcs, fun x => by simp at x, by simp, fun j x => by simp at x, fun j x => by simp at x, fun j x => by simp at x, fun j x => by simp at x⟩
  · simp at hcs hmm
    rw [cells36] at hel
    obtain ⟨b, off, s⟩ := a
    have key : ∀ j, j < len → ∃ p : Key × Bool, w.cell? ((⟨b, off, s⟩ : Addr).add (j * 4)) = some (.int .u64 p.1.v) ∧ w.cell? (((⟨b, off, s⟩ : Addr).add (j * 4)).add 1) = some (.int .u64 p.1.o) ∧
        w.cell? (((⟨b, off, s⟩ : Addr).add (j * 4)).add 2) = some (.int .u8 p.1.k) ∧ w.cell? (((⟨b, off, s⟩ : Addr).add (j * 4)).add 3) = some (.bool p.2) := by
      intro j hj
      obtain ⟨cs', h1, h2⟩ := hel j (by omega)
      obtain ⟨_, _, hc⟩ := World.cells?_some h1
      obtain ⟨k, r, rfl⟩ := elem_of h2
      refine ⟨(k, r), ?_, ?_, ?_, ?_⟩
      · have := hc 0 (by omega); simpa [Addr.add] using this
      · simpa using hc 1 (by omega)
      · simpa using hc 2 (by omega)
      · simpa using hc 3 (by omega)
    have hs : 0 < len → s = none := fun hp => by
      obtain ⟨p, h0, _⟩ := key 0 hp
      simpa [Addr.add] using World.cell?_spot h0
    obtain ⟨f, hf⟩ := @Go.Deep.choose_lt (Key × Bool) ⟨(⟨0, 0, 0⟩, false)⟩ len _ key
    refine ⟨⟨some ⟨b, off, s⟩, len, cap, b, off, fun j => (f j).1, fun j => (f j).2⟩, hcs, fun hp => by rw [hs hp], by unfold maxLen at hm; show len ≤ _; omega, ?_, ?_, ?_, ?_⟩
    · intro j hj
      have h := (hf j hj).1
      rw [hs (Nat.lt_of_le_of_lt (Nat.zero_le _) hj), add_plain] at h
      exact h
    · intro j hj
      have h := (hf j hj).2.1
      rw [hs (Nat.lt_of_le_of_lt (Nat.zero_le _) hj), add_plain, add_plain] at h
      exact h
    · intro j hj
      have h := (hf j hj).2.2.1
      rw [hs (Nat.lt_of_le_of_lt (Nat.zero_le _) hj), add_plain, add_plain] at h
      exact h
    · intro j hj
      have h := (hf j hj).2.2.2
      rw [hs (Nat.lt_of_le_of_lt (Nat.zero_le _) hj), add_plain, add_plain] at h
      exact h

theorem in_of {a0 : Option Addr} {len0 cap0 : Nat} {d : DataW H} {p : List MemPlace} (h : DataW.Trod enc Try.prog w base (fun _ => true) held 22 (.slice a0 len0 cap0) d p) : ∃ S : Src, S.N = len0 ∧ In S w a0 := by
  obtain ⟨fuel, hf⟩ := h
  rcases Go.Deep.open_slice1 Try.underlying22 cells33 hf with ⟨hcs, _⟩ | ⟨a, len, cap, m, n, V, D, Pl, hcs, _, hl, hm, hmm, _, hel⟩
  · simp [Value.cells] at hcs
    obtain ⟨rfl, rfl, rfl⟩ := hcs
    refine ⟨⟨0, 0, 0, fun _ => none, fun _ => 0, fun _ => 0, fun _ => 0, fun _ => 0, fun _ _ => ⟨0, 0, 0⟩, fun _ _ => false⟩, rfl, fun x => by simp at x, fun k x => by simp at x, fun k x => by simp at x, fun k j x => by simp at x, fun k j x => by simp at x, fun k j x => by simp at x, fun k j x => by simp at x, fun k x => by simp at x⟩
  · simp [Value.cells] at hcs hmm
    obtain ⟨rfl, rfl, rfl⟩ := hcs
    obtain ⟨b, off, s⟩ := a
    obtain ⟨f, hf⟩ := @Go.Deep.choose_lt RowD ⟨⟨none, 0, 0, 0, 0, fun _ => ⟨0, 0, 0⟩, fun _ => false⟩⟩ len0 (fun i d => RowOk w (V i) d) (fun i hi => row_of (hel i (by omega)).2)
    have hs : 0 < len0 → s = none := fun hp => by simpa [Addr.add] using World.cell?_spot (hel 0 (by omega)).1
    refine ⟨⟨len0, b, off, fun i => (f i).A, fun i => (f i).L, fun i => (f i).C, fun i => (f i).rb, fun i => (f i).ro, fun i => (f i).E, fun i => (f i).R⟩, rfl, fun hp => by rw [hs hp], fun k hk => ?_, fun k hk => (hf k hk).row, fun k j hk => (hf k hk).el0 j, fun k j hk => (hf k hk).el1 j, fun k j hk => (hf k hk).el2 j, fun k j hk => (hf k hk).el3 j, fun k hk => (hf k hk).len⟩
    have hk' : k < len0 := hk
    have h := (hel k (by omega)).1
    rw [hs (by omega), add_plain, (hf k hk').val] at h
    exact h
end
end Go.Proofs.Qxb6603828a
