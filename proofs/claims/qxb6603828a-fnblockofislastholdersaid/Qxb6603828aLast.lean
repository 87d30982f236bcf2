/-
  lastHolder: the block of the last row that holds the event.
-/
import Derived.Test.Qxb6603828aSrc
import Derived.Deep.RegionWith
import Derived.Deep.Draws
namespace Go.Proofs.Qxb6603828a
open Go.RowKit

/-- Does one of the first m events hold a? -/
def hasK (E : Nat → Key) (a : Key) : Nat → Bool
  | 0 => false
  | m + 1 => (E m).same a || hasK E a m
theorem hasK_hit {E : Nat → Key} {a : Key} {j : Nat} (h : (E j).same a = true) : ∀ m, j < m → hasK E a m = true
  | 0, hj => by omega
  | m + 1, hj => by
    unfold hasK
    by_cases e : j = m
    · subst e; simp [h]
    · simp [hasK_hit h m (by omega)]
/-- The last of the first k rows that holds a, as a pointer to its block. -/
def lastK (S : Src) (bb : Nat → Nat) (a : Key) : Nat → Value
  | 0 => .pointer none
  | k + 1 => if hasK (S.E k) a (S.L k) = true then .pointer (some ⟨bb k, 0, none⟩) else lastK S bb a k

theorem uuidOf_key (a : Key) (r : Bool) (w : World) :
    Calls Try.prog 16 #[.agg #[.int .u64 a.v, .int .u64 a.o, .int .u8 a.k, .bool r]] w fun e w' => e = .returned (.agg #[.int .u64 a.v, .int .u64 a.o, .int .u8 a.k]) ∧
      w' = (w.alloc (.cells #[.int .u64 a.v, .int .u64 a.o, .int .u8 a.k, .bool r] 36)).alloc (.cells #[.int .u64 a.v, .int .u64 a.o, .int .u8 a.k] 41) := uuidOf_any a.v a.o a.k r w
theorem eql_key (a b : Key) (w : World) : (binOp .eql 41 (.agg #[.int .u64 a.v, .int .u64 a.o, .int .u8 a.k]) (.agg #[.int .u64 b.v, .int .u64 b.o, .int .u8 b.k])).run Try.prog w = .ok (.bool (a.same b)) w := run_eql_uuid a b w

/-- A result, kept from the walk's simp. -/
def Ans (v : Value) (e : Ending) : Prop := e = .returned v

theorem lh_grow {w wr : World} (h : Below w.heap.size w wr) (o1 o2 : Obj) : Below w.heap.size w (((wr.alloc o1).alloc o2).drew) :=
  ((h.alloc h.size _).alloc (by have := h.size; simp; omega) _).drew
theorem lh_grow2 {w wr : World} {o : Obj} (h : Below (w.heap.size + 1) (w.alloc o) wr) (o1 o2 : Obj) : Below (w.heap.size + 1) (w.alloc o) (((wr.alloc o1).alloc o2).drew) := by
  have hs := h.size
  rw [World.size_alloc] at hs
  exact ((h.alloc hs _).alloc (by simp; omega) _).drew

set_option maxRecDepth 100000 in
set_option maxHeartbeats 2000000 in
theorem lastHolder_any (S : Src) (a0 : Option Addr) (cap : Nat) (lb : Nat) (bb : Nat → Nat) (q : Key) (w : World) (h : In S w a0) (hS : Small S) (hl : ∀ k, k < S.N → w.cell? ⟨lb, k, none⟩ = some (.pointer (some ⟨bb k, 0, none⟩))) :
    Calls Try.prog 29 #[.slice a0 S.N cap, .slice (some ⟨lb, 0, none⟩) S.N S.N, U q] w fun e w' => Ans (lastK S bb q S.N) e ∧ Below w.heap.size w w' := by
  obtain ⟨hN, hL⟩ := hS
  unfold U
  go_enter Try.func29, Try.ntmps29
  go_wp2_with fail
  go_loopw [7] (fun i wr => ∃ t : Nat, t ≤ S.N ∧ i = .int .i64 ((t : Int) - 1) ∧ Below (w.heap.size + 1) (w.alloc (.cells #[.int .u64 q.v, .int .u64 q.o, .int .u8 q.k] 41)) wr ∧ Hid (lastK S bb q S.N = lastK S bb q t)) (fun i _ => ((intOf i) + 1).toNat)
  case atStart => exact ⟨S.N, Nat.le_refl _, rfl, Below.refl _ _, rfl⟩
  case round =>
    obtain ⟨t, ht, rfl, hb, hK⟩ := hrel
    obtain ⟨wk, rfl⟩ : ∃ wk, wk = wr := ⟨wr, rfl⟩
    have hbw : Below w.heap.size w wk := ((Below.refl _ _).alloc (Nat.le_refl _) _).trans (hb.mono (by omega))
    rcases Nat.eq_zero_or_pos t with h0 | h0
    · subst h0
      go_wp2
      go_ret
      exact ⟨by unfold Ans; rw [hK.out]; rfl, hbw⟩
    · obtain ⟨k, rfl⟩ : ∃ k, t = k + 1 := ⟨t - 1, by omega⟩
      have hkN : k < S.N := by omega
      have ho := h.out (by omega)
      subst ho
      have bk : (k : Int) < (S.N : Int) := by omega
      have ek : ((k + 1 : Nat) : Int) - 1 = (k : Int) := by omega
      rw [ek]
      have hLk := hL k hkN
      clear ek hL
      go_wp2_with fail
      go_loopw [8] (fun i wz => ∃ j : Nat, j ≤ S.L k ∧ i = .int .i64 j ∧ Below (w.heap.size + 1) (w.alloc (.cells #[.int .u64 q.v, .int .u64 q.o, .int .u8 q.k] 41)) wz ∧ Hid (hasK (S.E k) q j = false)) (fun i _ => S.L k - (intOf i).toNat)
      case atStart => exact ⟨0, Nat.zero_le _, rfl, hb, rfl⟩
      case round =>
        obtain ⟨j, hj, rfl, hz, hA⟩ := hrel
        clear hb hbw
        have hbw : Below w.heap.size w wr := ((Below.refl _ _).alloc (Nat.le_refl _) _).trans (hz.mono (by omega))
        have hin := h.below hbw
        have ck := hin.cell k hkN
        by_cases hlj : j < S.L k
        · have eA := hin.row k hkN (by omega)
          rw [eA] at ck
          have bj : (j : Int) < (S.L k : Int) := by omega
          have e0 := hin.el0 k j hkN hlj
          have e1 := hin.el1 k j hkN hlj
          have e2 := hin.el2 k j hkN hlj
          have e3 := hin.el3 k j hkN hlj
          have hq : ∀ i v, (#[Value.int .u64 q.v, Value.int .u64 q.o, Value.int .u8 q.k] : Array Value)[i]? = some v → wr.cell? ⟨w.heap.size, i, none⟩ = some v := fun i v e => by
            rw [hz.cell (p := ⟨w.heap.size, i, none⟩) (by show w.heap.size < w.heap.size + 1; omega), World.cell?_alloc_new]; exact e
          have q0 := hq 0 _ rfl
          have q1 := hq 1 _ rfl
          have q2 := hq 2 _ rfl
          have hws : w.heap.size < wr.heap.size := by have := hz.size; simp at this; omega
          have hws1 : w.heap.size < wr.heap.size + 1 := by omega
          have cl := (hbw.cell (p := ⟨lb, k, none⟩) (block_lt_of_cell (hl k hkN))).trans (hl k hkN)
          have lbl := block_lt_of_cell cl
          have lbl1 : lb < wr.heap.size + 1 := by have : lb < wr.heap.size := lbl; omega
          have lbl0 : lb < wr.heap.size := lbl
          clear hq hl lbl
          cases hs : (S.E k j).same q with
          | true =>
            have heq := fun w => eql_key (S.E k j) q w
            simp only [hs] at heq
            have HS : Hid ((S.E k j).same q = true) := hs
            clear hs
            go_wp2_with fail
            go_region_with (go_at_call 16; refine (uuidOf_key (S.E k j) _ _).mono ?_; rintro e w' ⟨rfl, rfl⟩)
            all_goals go_wp2
            all_goals go_ret
            all_goals exact ⟨by unfold Ans; rw [hK.out]; unfold lastK; rw [if_pos (hasK_hit HS.out _ hlj)]; rfl, lh_grow hbw _ _⟩
          | false =>
            have heq := fun w => eql_key (S.E k j) q w
            simp only [hs] at heq
            have HS : Hid ((S.E k j).same q = false) := hs
            clear hs
            go_wp2_with fail
            go_region_with (go_at_call 16; refine (uuidOf_key (S.E k j) _ _).mono ?_; rintro e w' ⟨rfl, rfl⟩)
            all_goals go_wp2
            all_goals
              go_roundw
              case rel => exact ⟨j + 1, by omega, by go_num, lh_grow2 hz _ _, by unfold Hid hasK; rw [HS.out, hA.out]; rfl⟩
              case measure => simp [intOf]; omega
        · obtain rfl : j = S.L k := by omega
          go_wp2
          go_roundw
          case rel =>
            refine ⟨k, by omega, by go_num, hz, ?_⟩
            unfold Hid
            rw [hK.out, lastK, if_neg (by rw [hA.out]; decide)]
          case measure => simp [intOf]
end Go.Proofs.Qxb6603828a
