/-
  The walks of FnFrontIsTheOldestArrival and of FnUnlinkTakesOutExactlyThatWaiter.
-/
import Derived.Test.Qxb6604623aListIs
namespace Go.Proofs.Qxb6604623a
open Go.RowKit

theorem full_congr {f g : Nat → Value} {n : Nat} (h : ∀ i, i < n → f i = g i) : full f n = full g n := by
  apply Array.ext_getElem?
  intro i
  rw [full_get, full_get]
  by_cases hi : i < n
  · rw [if_pos hi, if_pos hi, h i hi]
  · rw [if_neg hi, if_neg hi]
theorem made_full (z : Value) (n : Nat) : madeCells #[z] n = full (fun _ => z) n := by
  rw [part_zero z (fun _ => z) n]
  apply Array.ext_getElem?
  intro i
  rw [part_get, full_get]
  by_cases hi : i < n <;> simp [hi]
theorem full_set (f : Nat → Value) (n j : Nat) (v : Value) : (full f n).setIfInBounds j v = full (fun i => if i = j then v else f i) n := by
  apply Array.ext_getElem?
  intro i
  rw [Array.getElem?_setIfInBounds, full_get, full_get, full_size]
  by_cases e : j = i
  · subst e
    by_cases h : j < n <;> simp [h]
  · have e2 : ¬ i = j := fun x => e x.symm
    simp [e, e2]
theorem gone_none (n : Nat) : madeCells #[.bool false] n = full (fun j => .bool (!(fun _ => true : Nat → Bool) j)) n := made_full _ n
theorem gone_one (n j : Nat) : (madeCells #[.bool false] n).setIfInBounds j (.bool true) = full (fun i => .bool (!kill (fun _ => true) j i)) n := by
  rw [made_full, full_set]
  refine full_congr (fun i _ => ?_)
  by_cases e : i = j <;> simp [e, kill]

section
variable {w : World} {q B n : Nat} {Z : Nat → Int} {g : Int} {al : Nat → Bool} {hd tl : Option Nat} {nx pv : Nat → Option Nat}
theorem QSt.alloc (h : QSt w q B n Z g al hd tl nx pv) (o : Obj) : QSt (w.alloc o) q B n Z g al hd tl nx pv :=
  ⟨h.lk, h.qb.alloc o, fun j hj => (h.nb j hj).alloc o⟩
theorem Own.alloc {so : Option Addr} {c : Nat} (h : Own w so c n Z) (o : Obj) : Own (w.alloc o) so c n Z :=
  ⟨h.at_, fun i hi => by rw [World.cell?_alloc_lt _ _ _ (World.block_lt_of_cell? w _ (h.cells i hi))]; exact h.cells i hi⟩
end

theorem sorted_le {Z : Nat → Int} {n : Nat} (h : Sorted Z n) : ∀ k, k < n → Z 0 ≤ Z k
  | 0, _ => Int.le_refl _
  | k + 1, hk => Int.le_trans (sorted_le h k (by omega)) (h (k + 1) (by omega) hk)

set_option maxHeartbeats 2000000 in
theorem oldest_run (so : Option Addr) (n cap : Nat) (Z : Nat → Int) (w : World) (hn : n ≤ 65536) (hn0 : 0 < n) (h : In w so n cap Z) :
    Calls Try.prog 6 #[.slice so n cap] w fun e w' => e = .returned (.bool true) ∧ Below w.heap.size w w' := by
  have h1 : ¬ (65536 : Int) < (n : Int) := by omega
  have h2 : ((n : Int) == 0) = false := beq_eq_false_iff_ne.2 (by omega)
  have hmk := fun (w : World) => run_make_row' (P := Try.prog) 39 4 (.bool false) 1 Try.underlying39 info4 rfl .i64 .i64 n (by omega) (by omega) w
  go_enter Try.func6, Try.ntmps6
  go_wp2_with fail
  refine calls_same (bytes18_ok _ _ _ _ (by omega)) ?_
  go_wp2_with fail
  refine (sorted_any so n cap Z _ hn h).mono ?_
  rintro e w1 ⟨r, m, rfl, rfl, hS⟩
  cases r
  · go_wp2
    go_ret
    exact ⟨rfl, below_drewN w m⟩
  · have HS : Hid (Sorted Z n) := hS rfl
    clear hS
    go_wp2_with fail
    refine (copyL_any so n cap Z _ hn (h.drewN m)).mono ?_
    rintro e w1 ⟨so', cp', rfl, ho, hb, hlt⟩
    clear h
    go_wp2_with fail
    refine (newQueue_any so' _ n cp' Z w1 hn ho.at_ ho.cells).mono ?_
    rintro e w2 ⟨rfl, h2, hs, hz, hb2⟩
    go_wp2_with fail
    refine (built_lock (w0 := w.drewN m) hb ho hlt h2 hs hz hb2).mono ?_
    rintro e w3 ⟨rfl, hB⟩
    clear ho hb hlt h2 hs hz hb2
    obtain ⟨q, c, hB, hq⟩ : ∃ q c, Built w w3 q n Z so' c ∧ q = w1.heap.size := ⟨_, _, hB.undrew, rfl⟩
    rw [← hq]
    clear hq
    have hso := hB.own.at_ hn0
    subst hso
    have c0 := hB.own.cells 0 hn0
    have b0 : (0 : Int) < (n : Int) := by omega
    go_wp2_with fail
    go_loopw [5, 6] (fun l i wr => ∃ (k : Nat), 1 ≤ k ∧ k ≤ n ∧ i = .int .i64 k ∧ l = .int .i64 (Z 0) ∧ wr = w3) (fun _ i _ => n - (intOf i).toNat)
    case atStart => exact ⟨1, by omega, by omega, rfl, rfl, rfl⟩
    case round =>
      obtain ⟨k, hk1, hk, rfl, rfl, rfl⟩ := hrel
      by_cases hlt : k < n
      · have ck := hB.own.cells k hlt
        have bk : (k : Int) < (n : Int) := by omega
        have nl : ¬ Z k < Z 0 := by have := sorted_le HS.out k hlt; omega
        go_wp2
        go_roundw
        case rel => exact ⟨k + 1, by omega, by omega, by go_num, rfl, trivial⟩
        case measure => simp [intOf]; omega
      · have e0 : Hid (hd0 n = some 0) := by unfold hd0; rw [if_neg (by omega)]; rfl
        go_wp2_with fail
        refine calls_same (hB.st.front 0 e0.out) ?_
        go_wp2_with fail
        refine calls_same (hB.st.front 0 e0.out) ?_
        go_wp2_with fail
        refine calls_same ((hB.st.alloc _).guardP) ?_
        go_wp2_with fail
        refine (listIs_any (hB.st.alloc _) (hB.ws.alloc _) (hB.own.alloc _) ?_ hn).mono ?_
        · rw [gone_none]; exact heap_alloc_new wr _
        · rintro e w' ⟨rfl, m', rfl⟩
          go_wp2
          go_ret
          exact ⟨rfl, (hB.below.alloc hB.below.size _).trans ⟨rfl, rfl, rfl, Nat.le_refl _, fun _ _ => rfl⟩⟩

set_option maxHeartbeats 400000 in
theorem oldest_short (a : Option Addr) (len cap : Nat) (w : World) (hlen : ¬ len ≤ 65536 ∨ len = 0) : Calls Try.prog 6 #[.slice a len cap] w fun e w' => e = .returned (.bool true) ∧ Below w.heap.size w w' := by
  by_cases h : len ≤ 1048576
  · by_cases h0 : len = 0
    · subst h0
      go_enter Try.func6, Try.ntmps6
      go_wp2_with fail
      refine calls_same (bytes18_ok _ _ _ _ h) ?_
      go_wp2
      go_ret
      exact ⟨rfl, Below.refl _ _⟩
    · have h1 : (65536 : Int) < (len : Int) := by omega
      go_enter Try.func6, Try.ntmps6
      go_wp2_with fail
      refine calls_same (bytes18_ok _ _ _ _ h) ?_
      go_wp2
      go_ret
      exact ⟨rfl, Below.refl _ _⟩
  · go_enter Try.func6, Try.ntmps6
    go_wp2_with fail
    refine calls_same (bytes18_no _ _ _ _ h) ?_
    go_wp2
    go_ret
    exact ⟨rfl, Below.refl _ _⟩
theorem oldest_walk (so : Option Addr) (n cap : Nat) (Z : Nat → Int) (w : World) (h : In w so n cap Z) :
    Calls Try.prog 6 #[.slice so n cap] w fun e w' => e = .returned (.bool true) ∧ Below w.heap.size w w' := by
  by_cases hn : n ≤ 65536
  · by_cases h0 : n = 0
    · exact oldest_short so n cap w (.inr h0)
    · exact oldest_run so n cap Z w hn (by omega) h
  · exact oldest_short so n cap w (.inl hn)

set_option maxHeartbeats 2000000 in
theorem takeout_run (so : Option Addr) (n cap : Nat) (Z : Nat → Int) (j : Nat) (w : World) (hn : n ≤ 65536) (hj : j < n) (h : In w so n cap Z) :
    Calls Try.prog 8 #[.slice so n cap, .int .i64 j] w fun e w' => e = .returned (.bool true) ∧ Below w.heap.size w w' := by
  have h1 : ¬ (65536 : Int) < (n : Int) := by omega
  have b0 : ¬ (j : Int) < 0 := by omega
  have b1 : (j : Int) < (n : Int) := by omega
  have hmk := fun (w : World) => run_make_row' (P := Try.prog) 39 4 (.bool false) 1 Try.underlying39 info4 rfl .i64 .i64 n (by omega) (by omega) w
  go_enter Try.func8, Try.ntmps8
  go_wp2_with fail
  refine calls_same (bytes26_ok _ _ _ _ _ (by omega)) ?_
  go_wp2_with fail
  refine (sorted_any so n cap Z _ hn h).mono ?_
  rintro e w1 ⟨r, m, rfl, rfl, -⟩
  cases r
  · go_wp2
    go_ret
    exact ⟨rfl, below_drewN w m⟩
  · go_wp2_with fail
    refine (copyL_any so n cap Z _ hn (h.drewN m)).mono ?_
    rintro e w1 ⟨so', cp', rfl, ho, hb, hlt⟩
    clear h
    go_wp2_with fail
    refine (newQueue_any so' _ n cp' Z w1 hn ho.at_ ho.cells).mono ?_
    rintro e w2 ⟨rfl, h2, hs, hz, hb2⟩
    go_wp2_with fail
    refine (built_lock (w0 := w.drewN m) hb ho hlt h2 hs hz hb2).mono ?_
    rintro e w3 ⟨rfl, hB⟩
    clear ho hb hlt h2 hs hz hb2
    obtain ⟨q, c, hB, hq⟩ : ∃ q c, Built w w3 q n Z so' c ∧ q = w1.heap.size := ⟨_, _, hB.undrew, rfl⟩
    rw [← hq]
    clear hq
    have cw := ws_cell hB.ws j hj
    go_wp2_with fail
    refine (zzUnlink_state hB.st (by omega) j hj rfl).mono ?_
    rintro e w4 ⟨rfl, hQ, hF⟩
    have hO := hF.own hB.own hB.lt
    have hW := hF.ws hB.ws
    have hBel := Fr.below hB.below hF hB.ge (by have := hB.ge; omega)
    clear hB hF cw
    have hmc : (madeCells #[.bool false] n)[j]? = some (.bool false) := by rw [made_full, full_get, if_pos hj]
    have HG : Hid ((madeCells #[.bool false] n).setIfInBounds j (.bool true) = full (fun i => .bool (!kill (fun _ => true) j i)) n) := gone_one n j
    go_wp2_with fail
    refine (listIs_any (hQ.alloc _) (hW.alloc _) (hO.alloc _) ?_ hn).mono ?_
    · rw [HG.out]; exact heap_alloc_new w4 _
    · rintro e w' ⟨rfl, m', rfl⟩
      go_wp2_with fail
      refine calls_same (((hQ.alloc _).drewN _).guardP) ?_
      go_wp2
      go_ret
      exact ⟨rfl, (hBel.alloc hBel.size _).trans ⟨rfl, rfl, rfl, Nat.le_refl _, fun _ _ => rfl⟩⟩

set_option maxHeartbeats 800000 in
theorem takeout_short (a : Option Addr) (len cap : Nat) (i : Int) (w : World) (hi : ¬ len ≤ 65536 ∨ i < 0 ∨ (len : Int) ≤ i) : Calls Try.prog 8 #[.slice a len cap, .int .i64 i] w fun e w' => e = .returned (.bool true) ∧ Below w.heap.size w w' := by
  by_cases h : len ≤ 1048576
  · by_cases h0 : len ≤ 65536
    · have h1 : ¬ (65536 : Int) < (len : Int) := by omega
      by_cases hn : i < 0
      · go_enter Try.func8, Try.ntmps8
        go_wp2_with fail
        refine calls_same (bytes26_ok _ _ _ _ _ h) ?_
        go_wp2
        go_ret
        exact ⟨rfl, Below.refl _ _⟩
      · have h3 : (len : Int) ≤ i := by omega
        clear hi
        go_enter Try.func8, Try.ntmps8
        go_wp2_with fail
        refine calls_same (bytes26_ok _ _ _ _ _ h) ?_
        go_wp2
        go_ret
        exact ⟨rfl, Below.refl _ _⟩
    · have h1 : (65536 : Int) < (len : Int) := by omega
      clear hi
      go_enter Try.func8, Try.ntmps8
      go_wp2_with fail
      refine calls_same (bytes26_ok _ _ _ _ _ h) ?_
      go_wp2
      go_ret
      exact ⟨rfl, Below.refl _ _⟩
  · clear hi
    go_enter Try.func8, Try.ntmps8
    go_wp2_with fail
    refine calls_same (bytes26_no _ _ _ _ _ h) ?_
    go_wp2
    go_ret
    exact ⟨rfl, Below.refl _ _⟩
theorem takeout_walk (so : Option Addr) (n cap : Nat) (Z : Nat → Int) (i : Int) (w : World) (h : In w so n cap Z) :
    Calls Try.prog 8 #[.slice so n cap, .int .i64 i] w fun e w' => e = .returned (.bool true) ∧ Below w.heap.size w w' := by
  by_cases hs : ¬ n ≤ 65536 ∨ i < 0 ∨ (n : Int) ≤ i
  · exact takeout_short so n cap i w hs
  · obtain ⟨j, rfl⟩ := Int.eq_ofNat_of_zero_le (show 0 ≤ i by omega)
    exact takeout_run so n cap Z j w (by omega) (by omega) h
end Go.Proofs.Qxb6604623a
