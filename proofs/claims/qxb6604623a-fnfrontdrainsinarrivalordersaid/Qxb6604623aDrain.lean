/-
  The walk of FnFrontDrainsInArrivalOrder.
-/
import Derived.Test.Qxb6604623aPrefix
namespace Go.Proofs.Qxb6604623a
open Go.RowKit

def from_ (k : Nat) : Nat → Bool := fun i => decide (k ≤ i)
theorem from_zero : from_ 0 = fun _ => true := by funext i; simp [from_]
theorem from_kill (k : Nat) : kill (from_ k) k = from_ (k + 1) := by
  funext i
  unfold kill from_
  by_cases e : i = k
  · simp [e]
  · by_cases h : k ≤ i
    · have : k + 1 ≤ i := by omega
      simp [e, h, this]
    · have : ¬ k + 1 ≤ i := by omega
      simp [e, h, this]
theorem from_hd {n k : Nat} {hd tl : Option Nat} {nx pv : Nat → Option Nat} (h : Lk (from_ k) n hd tl nx pv) (hk : k < n) : hd = some k :=
  h.first.uniq (o' := some k) ⟨Nat.zero_le _, hk, by simp [from_], fun i _ b => by simp [from_]; omega⟩
theorem from_end {n : Nat} {hd tl : Option Nat} {nx pv : Nat → Option Nat} (h : Lk (from_ n) n hd tl nx pv) : hd = none ∧ tl = none :=
  ⟨h.first.uniq (o' := none) (fun i _ b => by simp [from_]; omega), h.last.uniq (o' := none) (fun i b => by simp [from_]; omega)⟩

set_option maxHeartbeats 2000000 in
theorem drain_run (so : Option Addr) (n cap : Nat) (Z : Nat → Int) (w : World) (hn : n ≤ 65536) (h : In w so n cap Z) :
    Calls Try.prog 7 #[.slice so n cap] w fun e w' => e = .returned (.bool true) ∧ Below w.heap.size w w' := by
  have h1 : ¬ (65536 : Int) < (n : Int) := by omega
  go_enter Try.func7, Try.ntmps7
  go_wp2_with fail
  refine calls_same (bytes24_ok _ _ _ _ (by omega)) ?_
  go_wp2_with fail
  refine (sorted_any so n cap Z _ hn h).mono ?_
  rintro e w1 ⟨r, m, rfl, rfl, -⟩
  cases r
  · go_wp2
    go_ret
    exact ⟨rfl, below_drewN w m⟩
  · go_wp2_with fail
    refine (copyL_any so n cap Z _ hn (h.drewN m)).mono ?_
    rintro e w1 ⟨so', cp', rfl, ho, hb, hlt⟩
    clear h
    go_wp2_with fail
    refine (newQueue_any so' _ n cp' Z w1 hn ho.at_ ho.cells).mono ?_
    rintro e w2 ⟨rfl, h2, hs, hz, hb2⟩
    go_wp2_with fail
    refine (built_lock (w0 := w.drewN m) hb ho hlt h2 hs hz hb2).mono ?_
    rintro e w3 ⟨rfl, hB⟩
    clear ho hb hlt h2 hs hz hb2
    obtain ⟨q, c, hB, hq⟩ : ∃ q c, Built w w3 q n Z so' c ∧ q = w1.heap.size := ⟨_, _, hB.undrew, rfl⟩
    rw [← hq]
    clear hq
    go_wp2_with fail
    go_loopw [5] (fun i wr => ∃ (k : Nat) (hd tl : Option Nat) (nx pv : Nat → Option Nat), k ≤ n ∧ i = .int .i64 k ∧ QSt wr q (q + 2) n Z 1 (from_ k) hd tl nx pv ∧ Fr q (q + 2) n w3 wr) (fun i _ => n - (intOf i).toNat)
    case atStart => exact ⟨0, _, _, _, _, Nat.zero_le _, rfl, by rw [from_zero]; exact hB.st, Fr.refl _ _ _ _⟩
    case round =>
      obtain ⟨k, hd, tl, nx, pv, hk, rfl, hQ, hF⟩ := hrel
      by_cases hlt : k < n
      · have hcell := (hF.own hB.own hB.lt).cells k hlt
        have hws := ws_cell (hF.ws hB.ws) k hlt
        have hso := hB.own.at_ (by omega)
        subst hso
        have hne := neq_same
        have ehd : Hid (hd = some k) := from_hd hQ.lk hlt
        go_wp2_with fail
        refine calls_same (hQ.head k ehd.out) ?_
        go_wp2_with fail
        go_quiet ((go_at_call 22; exact Calls.quiet_of_same ((hQ.drewN _).front k ehd.out)))
        go_wp2_with fail
        refine (zzUnlink_state (hQ.drewN _) (by omega) k hlt (by simp [from_])).mono ?_
        rintro e wy ⟨rfl, hQ', hF'⟩
        go_wp2
        go_roundw
        case rel =>
          rw [from_kill] at hQ'
          exact ⟨k + 1, _, _, _, _, by omega, by go_num, hQ', hF.trans ((Fr.drewN (Fr.refl _ _ _ _) _).trans hF')⟩
        case measure => simp [intOf]; omega
      · obtain rfl : k = n := by omega
        obtain ⟨e1, e2⟩ := from_end hQ.lk
        have E1 : Hid (hd = none) := e1
        have E2 : Hid (tl = none) := e2
        clear e1 e2
        go_wp2_with (first | (go_at_call 12; refine calls_same (hQ.head0 E1.out) ?_) | (go_at_call 13; refine calls_same (hQ.tail0 E2.out) ?_) | (go_at_call 14; refine calls_same (hQ.oldest0 E1.out) ?_) | (go_at_call 11; refine calls_same hQ.guardP ?_))
        go_ret
        exact ⟨rfl, Fr.below hB.below hF hB.ge (by have := hB.ge; omega)⟩

set_option maxHeartbeats 400000 in
theorem drain_long (a : Option Addr) (len cap : Nat) (w : World) (hlen : ¬ len ≤ 65536) : Calls Try.prog 7 #[.slice a len cap] w fun e w' => e = .returned (.bool true) ∧ Below w.heap.size w w' := by
  by_cases h : len ≤ 1048576
  · have h1 : (65536 : Int) < (len : Int) := by omega
    go_enter Try.func7, Try.ntmps7
    go_wp2_with fail
    refine calls_same (bytes24_ok _ _ _ _ h) ?_
    go_wp2
    go_ret
    exact ⟨rfl, Below.refl _ _⟩
  · go_enter Try.func7, Try.ntmps7
    go_wp2_with fail
    refine calls_same (bytes24_no _ _ _ _ h) ?_
    go_wp2
    go_ret
    exact ⟨rfl, Below.refl _ _⟩
theorem drain_walk (so : Option Addr) (n cap : Nat) (Z : Nat → Int) (w : World) (h : In w so n cap Z) :
    Calls Try.prog 7 #[.slice so n cap] w fun e w' => e = .returned (.bool true) ∧ Below w.heap.size w w' := by
  by_cases hn : n ≤ 65536
  · exact drain_run so n cap Z w hn h
  · exact drain_long so n cap w hn
end Go.Proofs.Qxb6604623a
