/-
  zzListIs answers true on a queue in the state that its arguments tell.
-/
import Derived.Test.Qxb6604623aPrefix
namespace Go.Proofs.Qxb6604623a
open Go.RowKit

/-- What zzListIs has met when it stands at place j. -/
structure LI (al : Nat → Bool) (n : Nat) (Z : Nat → Int) (hd : Option Nat) (j : Nat) (o p : Option Nat) (hf : Bool) (f : Int) : Prop where
  x : IsNx al j n o
  last : IsPv al j p
  no : hf = false → ∀ i, i < j → al i = false
  yes : hf = true → ∃ i, i < j ∧ hd = some i ∧ f = Z i

theorem li_start {al : Nat → Bool} {n : Nat} {hd tl : Option Nat} {nx pv : Nat → Option Nat} (Z : Nat → Int) (h : Lk al n hd tl nx pv) : LI al n Z hd 0 hd none false 0 :=
  ⟨h.first, IsPv.zero, fun _ i hi => by omega, fun h => by cases h⟩
theorem li_gone {al : Nat → Bool} {n : Nat} {Z : Nat → Int} {hd : Option Nat} {j : Nat} {o p : Option Nat} {hf : Bool} {f : Int} (h : LI al n Z hd j o p hf f) (ha : al j = false) : LI al n Z hd (j + 1) o p hf f :=
  ⟨h.x.skip ha, h.last.skip ha, fun e i hi => by
    by_cases e2 : i = j
    · rw [e2]; exact ha
    · exact h.no e i (by omega), fun e => by obtain ⟨i, a, b, c⟩ := h.yes e; exact ⟨i, by omega, b, c⟩⟩
theorem li_first {al : Nat → Bool} {n : Nat} {Z : Nat → Int} {hd tl : Option Nat} {nx pv : Nat → Option Nat} (L : Lk al n hd tl nx pv) {j : Nat} {o p : Option Nat} {f : Int} (h : LI al n Z hd j o p false f) (hj : j < n) (ha : al j = true) : LI al n Z hd (j + 1) (nx j) (some j) true (Z j) :=
  ⟨L.nexts j hj ha, IsPv.take ha, fun e => (by cases e), fun _ => ⟨j, by omega, L.first.uniq (o' := some j) ⟨Nat.zero_le _, hj, ha, fun i _ b => h.no rfl i b⟩, rfl⟩⟩
theorem li_more {al : Nat → Bool} {n : Nat} {Z : Nat → Int} {hd tl : Option Nat} {nx pv : Nat → Option Nat} (L : Lk al n hd tl nx pv) {j : Nat} {o p : Option Nat} {f : Int} (h : LI al n Z hd j o p true f) (hj : j < n) (ha : al j = true) : LI al n Z hd (j + 1) (nx j) (some j) true f :=
  ⟨L.nexts j hj ha, IsPv.take ha, fun e => (by cases e), fun e => (by obtain ⟨i, a, b, c⟩ := h.yes e; exact ⟨i, by omega, b, c⟩)⟩

set_option maxHeartbeats 2000000 in
theorem listIs_any {w : World} {q n : Nat} {Z : Nat → Int} {g : Int} {al : Nat → Bool} {hd tl : Option Nat} {nx pv : Nat → Option Nat} (h : QSt w q (q + 2) n Z g al hd tl nx pv)
    (hws : Blk w (q + 1) (full (fun j => .pointer (some ⟨q + 2 + j, 0, none⟩)) n) 28) {so : Option Addr} {c cp : Nat} (ho : Own w so c n Z) {gb : Nat} (hg : Blk w gb (full (fun j => .bool (!al j)) n) 4) (hn : n ≤ 65536) :
    Calls Try.prog 23 #[.pointer (some ⟨q, 0, none⟩), .slice (some ⟨q + 1, 0, none⟩) n n, .slice so n cp, .slice (some ⟨gb, 0, none⟩) n n] w fun e w' => e = .returned (.bool true) ∧ ∃ m, w' = w.drewN m := by
  have hne := neq_same
  go_enter Try.func23, Try.ntmps23
  go_wp2_with fail
  refine calls_same h.headP ?_
  go_wp2_with fail
  go_loopw [9, 10, 11, 12, 13] (fun x l b f i wr => ∃ (j : Nat) (o p : Option Nat) (hf : Bool) (fi : Int), j ≤ n ∧ i = .int .i64 j ∧ x = .pointer (wp (q + 2) o) ∧ l = .pointer (wp (q + 2) p) ∧ b = .bool hf ∧ f = .int .i64 fi ∧ Hid (∃ m, wr = w.drewN m) ∧ LI al n Z hd j o p hf fi) (fun _ _ _ _ i _ => n - (intOf i).toNat)
  case atStart => exact ⟨0, hd, none, false, 0, Nat.zero_le _, rfl, rfl, rfl, rfl, rfl, ⟨0, rfl⟩, li_start Z h.lk⟩
  case round =>
    obtain ⟨j, o, p, hf, fi, hj, rfl, rfl, rfl, rfl, rfl, hwr, hL⟩ := hrel
    have hQ : QSt wr q (q + 2) n Z g al hd tl nx pv := by obtain ⟨m, rfl⟩ := hwr; exact h.drewN m
    have hO : Own wr so c n Z := by obtain ⟨m, rfl⟩ := hwr; exact ⟨ho.at_, ho.cells⟩
    have hW : Blk wr (q + 1) (full (fun j => .pointer (some ⟨q + 2 + j, 0, none⟩)) n) 28 := by obtain ⟨m, rfl⟩ := hwr; exact hws
    have hG : Blk wr gb (full (fun j => .bool (!al j)) n) 4 := by obtain ⟨m, rfl⟩ := hwr; exact hg
    have more : ∀ k, Hid (∃ m, wr.drewN k = w.drewN m) := fun k => by obtain ⟨m, rfl⟩ := hwr; exact ⟨_, World.drewN_drewN ..⟩
    clear h ho hws hg
    by_cases hlt : j < n
    · have hso := hO.at_ (by omega)
      subst hso
      have cz := hO.cells j hlt
      have cw := ws_cell hW j hlt
      have cg : wr.cell? ⟨gb, j, none⟩ = some (.bool (!al j)) := hG.cell j _ (by rw [full_get]; simp [hlt])
      have bj : (j : Int) < (n : Int) := by omega
      cases ha : al j with
      | false =>
        rw [ha] at cg
        obtain ⟨d1, d2⟩ := hQ.lk.dead j hlt ha
        have D1 : Hid (nx j = none) := d1
        have D2 : Hid (pv j = none) := d2
        clear d1 d2
        have HA : Hid (al j = false) := ha
        clear ha
        go_wp2_with (first | (go_at_call 34; refine calls_same (hQ.next j hlt) ?_; rw [D1.out, wp_none]) | (go_at_call 35; refine calls_same (hQ.prev j hlt) ?_; rw [D2.out, wp_none]))
        go_roundw
        case rel => exact ⟨j + 1, o, p, hf, fi, by omega, by go_num, rfl, rfl, rfl, rfl, hwr, li_gone hL HA.out⟩
        case measure => simp [intOf]; omega
      | true =>
        rw [ha] at cg
        have ex : o = some j := hL.x.at hlt ha
        have ep : p = pv j := hL.last.uniq (hQ.lk.prevs j hlt ha)
        subst ex
        subst ep
        have HA : Hid (al j = true) := ha
        clear ha
        rw [wp_some]
        cases hf
        · go_wp2_with fail
          refine calls_same (hQ.prev j hlt) ?_
          go_wp2_with fail
          go_quiet ((go_at_call 36; exact Calls.quiet_of_same ((hQ.drewN _).since j hlt)))
          go_wp2_with fail
          refine calls_same ((hQ.drewN _).next j hlt) ?_
          go_wp2
          go_roundw
          case rel => exact ⟨j + 1, nx j, some j, true, Z j, by omega, by go_num, rfl, rfl, rfl, rfl, more _, li_first hQ.lk hL hlt HA.out⟩
          case measure => simp [intOf]; omega
        · go_wp2_with fail
          refine calls_same (hQ.prev j hlt) ?_
          go_wp2_with fail
          go_quiet ((go_at_call 36; exact Calls.quiet_of_same ((hQ.drewN _).since j hlt)))
          go_wp2_with fail
          refine calls_same ((hQ.drewN _).next j hlt) ?_
          go_wp2
          go_roundw
          case rel => exact ⟨j + 1, nx j, some j, true, fi, by omega, by go_num, rfl, rfl, rfl, rfl, more _, li_more hQ.lk hL hlt HA.out⟩
          case measure => simp [intOf]; omega
    · obtain rfl : j = n := by omega
      have eo := hL.x.end_
      have ep := hL.last.uniq hQ.lk.last
      subst eo
      subst ep
      rw [wp_none]
      cases hf with
      | false =>
        have e0 : Hid (hd = none) := hQ.lk.first.uniq (o' := none) (fun i _ b => hL.no rfl i b)
        go_wp2_with (first | (go_at_call 13; refine calls_same hQ.tailP ?_) | (go_at_call 14; refine calls_same (hQ.oldest0 e0.out) ?_))
        go_ret
        exact ⟨rfl, hwr⟩
      | true =>
        obtain ⟨i, hi, e1, e2⟩ := hL.yes rfl
        have eo : old Z hd = fi := by rw [e1, e2]; rfl
        have EO : Hid (old Z hd = fi) := eo
        clear eo e1 e2
        go_wp2_with (first | (go_at_call 13; refine calls_same hQ.tailP ?_) | (go_at_call 14; refine calls_same hQ.oldestP ?_; rw [EO.out]))
        go_ret
        exact ⟨rfl, hwr⟩
end Go.Proofs.Qxb6604623a
