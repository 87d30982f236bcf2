/-
  The argument, a slice of slices of elements, as it lies in memory; the two bounds on its size.
-/
import Derived.Test.Qxb6603828aSmall
namespace Go.Proofs.Qxb6603828a
open Go.RowKit

/-- What the argument holds: N rows; row k: the slice at A k, of L k elements (cap C k), whose cells begin at ⟨rb k, ro k⟩; element j of it: E k j, R k j. -/
structure Src where
  N : Nat
  ob : Nat
  oo : Nat
  A : Nat → Option Addr
  L : Nat → Nat
  C : Nat → Nat
  rb : Nat → Nat
  ro : Nat → Nat
  E : Nat → Nat → Key
  R : Nat → Nat → Bool

structure In (S : Src) (w : World) (a0 : Option Addr) : Prop where
  out : 0 < S.N → a0 = some ⟨S.ob, S.oo, none⟩
  cell : ∀ k, k < S.N → w.cell? ⟨S.ob, S.oo + k, none⟩ = some (.slice (S.A k) (S.L k) (S.C k))
  row : ∀ k, k < S.N → 0 < S.L k → S.A k = some ⟨S.rb k, S.ro k, none⟩
  el0 : ∀ k j, k < S.N → j < S.L k → w.cell? ⟨S.rb k, S.ro k + j * 4, none⟩ = some (.int .u64 (S.E k j).v)
  el1 : ∀ k j, k < S.N → j < S.L k → w.cell? ⟨S.rb k, S.ro k + j * 4 + 1, none⟩ = some (.int .u64 (S.E k j).o)
  el2 : ∀ k j, k < S.N → j < S.L k → w.cell? ⟨S.rb k, S.ro k + j * 4 + 2, none⟩ = some (.int .u8 (S.E k j).k)
  el3 : ∀ k j, k < S.N → j < S.L k → w.cell? ⟨S.rb k, S.ro k + j * 4 + 3, none⟩ = some (.bool (S.R k j))
  len : ∀ k, k < S.N → S.L k ≤ 9223372036854775807

theorem In.below {S : Src} {w w' : World} {a0 : Option Addr} (h : In S w a0) (hb : Below w.heap.size w w') : In S w' a0 := by
  have c : ∀ {p : Addr} {v : Value}, w.cell? p = some v → w'.cell? p = some v := fun {p v} e => (hb.cell (block_lt_of_cell e)).trans e
  exact ⟨h.out, fun k hk => c (h.cell k hk), h.row, fun k j hk hj => c (h.el0 k j hk hj), fun k j hk hj => c (h.el1 k j hk hj), fun k j hk hj => c (h.el2 k j hk hj), fun k j hk hj => c (h.el3 k j hk hj), h.len⟩
theorem In.obLt {S : Src} {w : World} {a0 : Option Addr} (h : In S w a0) {k : Nat} (hk : k < S.N) : S.ob < w.heap.size := block_lt_of_cell (h.cell k hk)
theorem In.rbLt {S : Src} {w : World} {a0 : Option Addr} (h : In S w a0) {k j : Nat} (hk : k < S.N) (hj : j < S.L k) : S.rb k < w.heap.size := block_lt_of_cell (h.el0 k j hk hj)

/-- The call answers a bool. -/
def BoolAns (e : Ending) : Prop := ∃ r, e = .returned (.bool r)

set_option maxHeartbeats 1000000 in
theorem bytes_any (S : Src) (a0 : Option Addr) (cap : Nat) (v1 o1 k1 v2 o2 k2 : Int) (w : World) (h : In S w a0) :
    Calls Try.prog 27 #[.slice a0 S.N cap, .int .u64 v1, .int .u64 o1, .int .u8 k1, .int .u64 v2, .int .u64 o2, .int .u8 k2] w fun e w' => BoolAns e ∧ w' = w := by
  by_cases hN : S.N ≤ 1048576
  · have c1 : ¬ (1048576 : Int) < (S.N : Int) := by omega
    go_enter Try.func27, Try.ntmps27
    go_wp2_with fail
    go_loop [15, 16] (fun t i => ∃ (k : Nat) (T : Int), k ≤ S.N ∧ i = .int .i64 k ∧ t = .int .i64 T ∧ 0 ≤ T ∧ T ≤ 1048576) (fun _ i => S.N - (intOf i).toNat)
    case atStart => exact ⟨0, _, Nat.zero_le _, rfl, rfl, by omega, by omega⟩
    case round =>
      obtain ⟨k, T, hk, rfl, rfl, hT0, hT1⟩ := hrel
      by_cases hlt : k < S.N
      · have ho := h.out (by omega)
        subst ho
        have ck := h.cell k hlt
        have bk : (k : Int) < (S.N : Int) := by omega
        by_cases hL : S.L k ≤ 1048576
        · have cL : ¬ (1048576 : Int) < (S.L k : Int) := by omega
          by_cases hT : T + (S.L k : Int) ≤ 1048576
          · go_wp2
            go_round
            case rel => exact ⟨k + 1, _, by omega, by go_num, rfl, by omega, by omega⟩
            case measure => simp [intOf]; omega
          · go_wp2
            go_ret
            exact ⟨⟨false, rfl⟩, rfl⟩
        · go_wp2
          go_ret
          exact ⟨⟨false, rfl⟩, rfl⟩
      · go_wp2
        go_ret
        exact ⟨⟨true, rfl⟩, rfl⟩
  · have c1 : (1048576 : Int) < (S.N : Int) := by omega
    go_enter Try.func27, Try.ntmps27
    go_wp2
    go_ret
    exact ⟨⟨false, rfl⟩, rfl⟩

/-- What sizeOK's yes tells. -/
def Small (S : Src) : Prop := S.N ≤ 65536 ∧ ∀ k, k < S.N → S.L k ≤ 1048576
def SizeAns (S : Src) (e : Ending) : Prop := ∃ r, e = .returned (.bool r) ∧ (r = true → Small S)

set_option maxHeartbeats 1000000 in
theorem sizeOK_any (S : Src) (a0 : Option Addr) (cap : Nat) (w : World) (h : In S w a0) :
    Calls Try.prog 9 #[.slice a0 S.N cap, .slice none 0 0] w fun e w' => SizeAns S e ∧ w' = w := by
  by_cases hN : S.N ≤ 65536
  · have c1 : ¬ (65536 : Int) < (S.N : Int) := by omega
    go_enter Try.func9, Try.ntmps9
    go_wp2_with fail
    go_loop [5, 6] (fun t i => ∃ (k : Nat) (T : Int), k ≤ S.N ∧ i = .int .i64 k ∧ t = .int .i64 T ∧ 0 ≤ T ∧ T ≤ 1572864 ∧ Hid (∀ j, j < k → S.L j ≤ 1048576)) (fun _ i => S.N - (intOf i).toNat)
    case atStart => exact ⟨0, _, Nat.zero_le _, rfl, rfl, by omega, by omega, fun j hj => by omega⟩
    case round =>
      obtain ⟨k, T, hk, rfl, rfl, hT0, hT1, hA⟩ := hrel
      by_cases hlt : k < S.N
      · have ho := h.out (by omega)
        subst ho
        have ck := h.cell k hlt
        have bk : (k : Int) < (S.N : Int) := by omega
        by_cases hL : S.L k ≤ 1048576
        · have cL : ¬ (1048576 : Int) < (S.L k : Int) := by omega
          by_cases hT : T + (S.L k : Int) * 24 ≤ 1048576
          · go_wp2
            go_round
            case rel =>
              refine ⟨k + 1, _, by omega, by go_num, rfl, by omega, by omega, fun j hj => ?_⟩
              by_cases e : j = k
              · rw [e]; exact hL
              · exact hA.out j (by omega)
            case measure => simp [intOf]; omega
          · go_wp2
            go_ret
            exact ⟨⟨false, rfl, fun x => by cases x⟩, rfl⟩
        · go_wp2
          go_ret
          exact ⟨⟨false, rfl, fun x => by cases x⟩, rfl⟩
      · go_wp2
        go_ret
        exact ⟨⟨_, rfl, fun _ => ⟨hN, fun j hj => hA.out j (by omega)⟩⟩, rfl⟩
  · have c1 : (65536 : Int) < (S.N : Int) := by omega
    go_enter Try.func9, Try.ntmps9
    go_wp2
    go_ret
    exact ⟨⟨false, rfl, fun x => by cases x⟩, rfl⟩
end Go.Proofs.Qxb6603828a
