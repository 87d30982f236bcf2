/-
  A map keyed by UUIDs, as a function of the key: what an update and a look-up do to it.
-/
import Derived.Test.Qxb6603828aUuid
namespace Go.Proofs.Qxb6603828a
open Go.RowKit

structure Ent where
  key : Key
  val : Value
  born : Nat
def Ent.entry (e : Ent) : MapEntry := ⟨U e.key, e.val, e.born⟩
def ents (L : List Ent) : Array MapEntry := (L.map Ent.entry).toArray
def lookL : List Ent → Key → Option Value
  | [], _ => none
  | e :: es, a => if a.same e.key = true then some e.val else lookL es a
def findL : List Ent → Key → Nat → Option (Nat × Value)
  | [], _, _ => none
  | e :: es, a, i => if a.same e.key = true then some (i, e.val) else findL es a (i + 1)
theorem findL_look (a : Key) : ∀ (L : List Ent) (i : Nat), (findL L a i).map (·.2) = lookL L a
  | [], _ => rfl
  | e :: es, i => by
    unfold findL lookL
    by_cases h : a.same e.key = true
    · simp [h]
    · simp [h, findL_look a es (i + 1)]
/-- The list behind an update. -/
def updL : List Ent → Key → Value → Nat → List Ent
  | [], a, v, c => [⟨a, v, c⟩]
  | e :: es, a, v, c => if a.same e.key = true then ⟨a, v, e.born⟩ :: es else e :: updL es a v c
theorem lookL_upd (a b : Key) (v : Value) (c : Nat) : ∀ L : List Ent, lookL (updL L a v c) b = if b.same a = true then some v else lookL L b
  | [] => by simp [updL, lookL]
  | e :: es => by
    unfold updL
    by_cases h : a.same e.key = true
    · have ek := Key.same_iff.1 h
      rw [if_pos h]
      unfold lookL
      by_cases hb : b.same a = true
      · simp [hb]
      · have : ¬ b.same e.key = true := by rw [← ek]; exact hb
        simp [hb, this]
    · rw [if_neg h]
      unfold lookL
      by_cases hb : b.same e.key = true
      · have eb := Key.same_iff.1 hb
        have : ¬ b.same a = true := by rw [eb, Key.same_comm]; exact h
        simp [hb, this]
      · simp [hb, lookL_upd a b v c es]
/-- Where the key is, the update turns that place alone. -/
theorem upd_found (a : Key) (v : Value) (c : Nat) : ∀ (L : List Ent) (i j : Nat) (u : Value), findL L a i = some (j, u) →
    ∃ k, j = i + k ∧ (∃ e, L[k]? = some e ∧ e.key = a ∧ updL L a v c = L.set k ⟨a, v, e.born⟩)
  | [], _, _, _, h => by simp [findL] at h
  | e :: es, i, j, u, h => by
    unfold findL at h
    by_cases hs : a.same e.key = true
    · simp [hs] at h
      refine ⟨0, by omega, e, rfl, (Key.same_iff.1 hs).symm, ?_⟩
      simp [updL, hs]
    · simp only [hs] at h
      obtain ⟨k, hj, e', h1, h2, h3⟩ := upd_found a v c es (i + 1) j u (by simpa using h)
      exact ⟨k + 1, by omega, e', by simpa using h1, h2, by simp [updL, hs, h3]⟩
theorem upd_none (a : Key) (v : Value) (c : Nat) : ∀ (L : List Ent) (i : Nat), findL L a i = none → updL L a v c = L ++ [⟨a, v, c⟩]
  | [], _, _ => rfl
  | e :: es, i, h => by
    unfold findL at h
    by_cases hs : a.same e.key = true
    · simp [hs] at h
    · simp only [hs] at h
      simp [updL, hs, upd_none a v c es (i + 1) (by simpa using h)]

theorem run_findAsking (a : Key) (w : World) : ∀ (L : List Ent) (i : Nat), (Instr.findAsking 41 (U a) (L.map Ent.entry) i).run Try.prog w = .ok (findL L a i) w
  | [], i => by simp [Instr.findAsking, findL]
  | e :: es, i => by
    simp only [List.map_cons, Instr.findAsking, Ent.entry, Sem.run_bind, run_equal_uuid, Result.andThen_ok, findL]
    by_cases h : a.same e.key = true
    · simp [h]
    · simp only [h, if_false, Bool.false_eq_true]
      exact run_findAsking a w es (i + 1)
theorem run_findKey (a : Key) (w : World) (L : List Ent) : (Instr.findKey 41 (U a) (L.map Ent.entry)).run Try.prog w = .ok (findL L a 0) w := by
  unfold Instr.findKey
  rw [Sem.run_bind, run_underlying Try.underlying41]
  cases L with
  | nil => simp [Instr.findNow, findL]
  | cons e es =>
    have h := run_findAsking a w (e :: es) 0
    simp only [List.map_cons] at h ⊢
    simp only [Result.andThen_ok, Instr.findNow, Ent.entry, U, Instr.sameNow] at h ⊢
    exact h

theorem run_checkKey_int (b : Bool) (d : Nat) (t : TypeId) (q k : IntKind) (x : Int) (w : World) (h : Try.prog.underlying t = some (.int q)) : (Instr.checkKey b (d + 1) t (.int k x)).run Try.prog w = .ok () w := by
  simp [Instr.checkKey, run_underlying h]
theorem run_checkKey_any (b : Bool) (d : Nat) (a : Key) (w : World) : (Instr.checkKey b (d + 2) 41 (U a)).run Try.prog w = .ok () w := by
  have h34 := fun (x : Int) (w : World) => run_checkKey_int b d 34 .u64 .u64 x w Try.underlying34
  have h39 := fun (x : Int) (w : World) => run_checkKey_int b d 39 .u8 .u8 x w Try.underlying39
  rw [Instr.checkKey]
  simp only [U, Sem.run_bind, run_underlying Try.underlying41, Result.andThen_ok]
  simp [part, h34, h39]
theorem run_checkKey (b : Bool) (a : Key) (w : World) : (Instr.checkKey b 10000 41 (U a)).run Try.prog w = .ok () w := run_checkKey_any b 9998 a w
theorem sameBits_any (d : Nat) (a : Key) : Instr.sameBits (d + 1) (U a) (U a) = true := by
  simp [U, Instr.sameBits]
theorem sameBits_uuid (a : Key) : Instr.sameBits 10000 (U a) (U a) = true := sameBits_any 9999 a
theorem zero47 (w : World) : (zeroValue 47).run Try.prog w = .ok (.pointer none) w := by kernel_rfl

/-- The world with another object in a block. -/
def setB (w : World) (r : Nat) (o : Obj) : World := { w with heap := w.heap.setIfInBounds r o }

theorem run_mapUpdate {w : World} {r : Nat} {L : List Ent} {c : Nat} (h : w.heap[r]? = some (.map (ents L) c)) (a : Key) (v : Value) :
    ∃ c', (Instr.mapUpdate 62 (.map (some r)) (U a) v).run Try.prog w = .ok () (setB w r (.map (ents (updL L a v c)) c')) := by
  have hf := run_findKey a w L
  have hel : (ents L).toList = L.map Ent.entry := by simp [ents]
  cases hfl : findL L a 0 with
  | none =>
    rw [hfl] at hf
    refine ⟨c + 1, ?_⟩
    have e : (ents L).push ⟨U a, v, c⟩ = ents (updL L a v c) := by
      rw [upd_none a v c L 0 hfl]
      simp [ents, Ent.entry]
    simp only [Instr.mapUpdate, Sem.run_bind, run_underlying Try.underlying62, Result.andThen_ok, MapKept.run_getObj_map h, run_checkKey, hel, hf, MapKept.run_setObj_map _ h, e, setB]
  | some p =>
    obtain ⟨j, u⟩ := p
    rw [hfl] at hf
    obtain ⟨k, hj, e, h1, h2, h3⟩ := upd_found a v c L 0 j u hfl
    have hjk : j = k := by omega
    subst hjk
    have hk : j < L.length := (List.getElem?_eq_some_iff.1 h1).1
    have hkey : (((ents L)[j]?).map (·.key)).getD (U a) = U a := by
      have : (ents L)[j]? = some e.entry := by simp [ents, h1]
      rw [this]
      simp [Ent.entry, h2]
    have e2 : (ents L).modify j (fun x => { x with key := U a, val := v }) = ents (updL L a v c) := by
      rw [h3]
      apply Array.ext_getElem?
      intro i
      rw [Array.getElem?_modify]
      by_cases hi : j = i
      · subst hi
        have hb : L[j] = e := (List.getElem?_eq_some_iff.1 h1).2
        simp [ents, Ent.entry, hk, hb]
      · simp [ents, hi]
    refine ⟨c, ?_⟩
    simp only [Instr.mapUpdate, Sem.run_bind, run_underlying Try.underlying62, Result.andThen_ok, MapKept.run_getObj_map h, run_checkKey, hel, hf, Instr.keyThatStays, hkey, sameBits_uuid, if_true, Sem.run_pure, MapKept.run_setObj_map _ h, e2, setB]

theorem run_lookup {w : World} {r : Nat} {L : List Ent} {c : Nat} (h : w.heap[r]? = some (.map (ents L) c)) (a : Key) :
    (Instr.lookup 62 (.map (some r)) (U a) false).run Try.prog w = .ok ((lookL L a).getD (.pointer none)) w := by
  have hf := run_findKey a w L
  have hel : (ents L).toList = L.map Ent.entry := by simp [ents]
  have hl := findL_look a L 0
  cases hfl : findL L a 0 with
  | none =>
    rw [hfl] at hf hl
    simp at hl
    simp only [Instr.lookup, Sem.run_bind, run_underlying Try.underlying62, Result.andThen_ok, MapKept.run_getObj_map h, Sem.run_pure, run_checkKey, hel, hf, zero47, ← hl, Bool.false_eq_true, if_false, Option.getD_none]
  | some p =>
    rw [hfl] at hf hl
    simp at hl
    simp only [Instr.lookup, Sem.run_bind, run_underlying Try.underlying62, Result.andThen_ok, MapKept.run_getObj_map h, Sem.run_pure, run_checkKey, hel, hf, ← hl, Bool.false_eq_true, if_false, Option.getD_some]

/-- Block r is a map that answers by f. -/
def MapIs (w : World) (r : Nat) (f : Key → Option Value) : Prop := ∃ L c, w.heap[r]? = some (.map (ents L) c) ∧ ∀ a, lookL L a = f a
theorem MapIs.look {w : World} {r : Nat} {f : Key → Option Value} (h : MapIs w r f) (a : Key) : (Instr.lookup 62 (.map (some r)) (U a) false).run Try.prog w = .ok ((f a).getD (.pointer none)) w := by
  obtain ⟨L, c, h1, h2⟩ := h
  rw [run_lookup h1, h2]
/-- An update: the world behind it. -/
theorem MapIs.update {w : World} {r : Nat} {f : Key → Option Value} (h : MapIs w r f) (a : Key) (v : Value) :
    ∃ o, (Instr.mapUpdate 62 (.map (some r)) (U a) v).run Try.prog w = .ok () (setB w r o) ∧ MapIs (setB w r o) r (fun b => if b.same a = true then some v else f b) := by
  obtain ⟨L, c, h1, h2⟩ := h
  obtain ⟨c', hr⟩ := run_mapUpdate h1 a v
  refine ⟨_, hr, updL L a v c, c', ?_, fun b => by rw [lookL_upd, h2]⟩
  have hlt : r < w.heap.size := (Array.getElem?_eq_some_iff.1 h1).1
  simp [setB, hlt]
theorem setB_other (w : World) (r : Nat) (o : Obj) (b : Nat) (h : b ≠ r) : (setB w r o).heap[b]? = w.heap[b]? := by
  simp only [setB, Array.getElem?_setIfInBounds]
  rw [if_neg (fun e => h e.symm)]
theorem setB_size (w : World) (r : Nat) (o : Obj) : (setB w r o).heap.size = w.heap.size := by simp [setB]
end Go.Proofs.Qxb6603828a
