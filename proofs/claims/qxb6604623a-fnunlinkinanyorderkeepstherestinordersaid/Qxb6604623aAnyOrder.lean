/-
  The walk of FnUnlinkInAnyOrderKeepsTheRestInOrder.
-/
import Derived.Test.Qxb6604623aOldest
namespace Go.Proofs.Qxb6604623a
open Go.RowKit

/-- Who is left when the first s of the order are out. -/
def rest (P : Nat → Nat) : Nat → Nat → Bool
  | 0 => fun _ => true
  | s + 1 => kill (rest P s) (P s)
/-- How many are live below k. -/
def cnt (al : Nat → Bool) : Nat → Nat
  | 0 => 0
  | k + 1 => cnt al k + (if al k then 1 else 0)
theorem cnt_all : ∀ k, cnt (fun _ => true) k = k
  | 0 => rfl
  | k + 1 => by simp [cnt, cnt_all k]
theorem cnt_past {al : Nat → Bool} {j : Nat} : ∀ k, k ≤ j → cnt (kill al j) k = cnt al k
  | 0, _ => rfl
  | k + 1, h => by rw [cnt, cnt, cnt_past k (by omega), kill_ne _ _ _ (by omega)]
theorem cnt_kill {al : Nat → Bool} {j : Nat} (ha : al j = true) : ∀ k, j < k → cnt (kill al j) k + 1 = cnt al k
  | 0, h => by omega
  | k + 1, h => by
    rw [cnt, cnt]
    by_cases e : j = k
    · subst e
      rw [cnt_past j (Nat.le_refl _), kill_self, ha]
      simp
    · rw [kill_ne _ _ _ (by omega), ← cnt_kill ha k (by omega)]
      omega
theorem cnt_zero {al : Nat → Bool} : ∀ k, cnt al k = 0 → ∀ i, i < k → al i = false
  | 0, _, i, h => by omega
  | k + 1, h, i, hi => by
    rw [cnt] at h
    by_cases e : i = k
    · subst e
      cases ha : al i with
      | false => rfl
      | true => rw [ha] at h; simp at h
    · exact cnt_zero k (by omega) i (by omega)
/-- The order names, at each place, one that is still there. -/
def Good (O : Nat → Int) (n s : Nat) : Prop := ∀ t, t < s → 0 ≤ O t ∧ O t < (n : Int) ∧ rest (fun t => (O t).toNat) t (O t).toNat = true
theorem rest_cnt {O : Nat → Int} {n : Nat} : ∀ s, Good O n s → cnt (rest (fun t => (O t).toNat) s) n + s = n
  | 0, _ => by simp [rest, cnt_all]
  | s + 1, h => by
    have ih := rest_cnt s (fun t ht => h t (by omega))
    obtain ⟨a, b, c⟩ := h s (by omega)
    have k := cnt_kill (al := rest (fun t => (O t).toNat) s) (j := (O s).toNat) c n (by omega)
    show cnt (kill (rest (fun t => (O t).toNat) s) (O s).toNat) n + (s + 1) = n
    omega
theorem rest_end {O : Nat → Int} {n : Nat} (h : Good O n n) : ∀ i, i < n → rest (fun t => (O t).toNat) n i = false :=
  cnt_zero n (by have := rest_cnt n h; omega)

/-- The state of the second loop: the first s of the order are out. -/
structure Run (w0 w : World) (q n : Nat) (Z O : Nat → Int) (so : Option Addr) (c : Nat) (so2 : Option Addr) (c2 s : Nat) (hd tl : Option Nat) (nx pv : Nat → Option Nat) : Prop where
  st : QSt w q (q + 2) n Z 1 (rest (fun t => (O t).toNat) s) hd tl nx pv
  ws : Blk w (q + 1) (full (fun j => .pointer (some ⟨q + 2 + j, 0, none⟩)) n) 28
  own : Own w so c n Z
  own2 : Own w so2 c2 n O
  gone : Blk w (q + 2 + n) (full (fun i => .bool (!rest (fun t => (O t).toNat) s i)) n) 4
  lt : 0 < n → c < q
  lt2 : 0 < n → c2 < q
  below : Below w0.heap.size w0 w
  ge : w0.heap.size ≤ q

section
variable {w0 w : World} {q n : Nat} {Z O : Nat → Int} {so : Option Addr} {c : Nat} {so2 : Option Addr} {c2 s : Nat} {hd tl : Option Nat} {nx pv : Nat → Option Nat}

theorem Own.drewN (h : Own w so c n Z) (m : Nat) : Own (w.drewN m) so c n Z := ⟨h.at_, h.cells⟩
theorem Own.set (h : Own w so c n Z) (b i : Nat) (v : Value) (hb : 0 < n → c ≠ b) : Own (w.setCell ⟨b, i, none⟩ v) so c n Z :=
  ⟨h.at_, fun k hk => by rw [World.cell?_setCell_other _ _ _ _ (fun e => hb (by omega) (congrArg Addr.block e).symm)]; exact h.cells k hk⟩
theorem Run.drewN (h : Run w0 w q n Z O so c so2 c2 s hd tl nx pv) (m : Nat) : Run w0 (w.drewN m) q n Z O so c so2 c2 s hd tl nx pv :=
  ⟨h.st.drewN m, h.ws.drewN m, h.own.drewN m, h.own2.drewN m, h.gone.drewN m, h.lt, h.lt2, h.below.trans ⟨rfl, rfl, rfl, Nat.le_refl _, fun _ _ => rfl⟩, h.ge⟩

theorem Run.step (h : Run w0 w q n Z O so c so2 c2 s hd tl nx pv) {wx : World} {hd' tl' : Option Nat} {nx' pv' : Nat → Option Nat}
    (hQ : QSt wx q (q + 2) n Z 1 (kill (rest (fun t => (O t).toNat) s) (O s).toNat) hd' tl' nx' pv') (hF : Fr q (q + 2) n w wx) :
    Run w0 (wx.setCell ⟨q + 2 + n, (O s).toNat, none⟩ (.bool true)) q n Z O so c so2 c2 (s + 1) hd' tl' nx' pv' := by
  have hlt := h.lt
  have hlt2 := h.lt2
  refine ⟨⟨hQ.lk, hQ.qb.other _ _ _ (by omega), fun j hj => (hQ.nb j hj).other _ _ _ (by omega)⟩, (hF.ws h.ws).other _ _ _ (by omega), (hF.own h.own hlt).set _ _ _ (by omega), (hF.own h.own2 hlt2).set _ _ _ (by omega), ?_, hlt, hlt2, ?_, h.ge⟩
  · have g : Blk wx (q + 2 + n) _ 4 := (hF.block (q + 2 + n) (by omega) (.inr (Nat.le_refl _))).trans h.gone
    refine (g.set (O s).toNat (.bool true)).to ?_
    rw [full_set]
    refine full_congr (fun i _ => ?_)
    show (if i = (O s).toNat then Value.bool true else _) = Value.bool (!kill (rest (fun t => (O t).toNat) s) (O s).toNat i)
    by_cases e : i = (O s).toNat <;> simp [kill, e]
  · have hg := h.ge
    exact (Fr.below h.below hF hg (by omega)).setCell (p := ⟨q + 2 + n, (O s).toNat, none⟩) (by show _ ≤ q + 2 + n; omega) _

theorem Run.goneCell (h : Run w0 w q n Z O so c so2 c2 s hd tl nx pv) (j : Nat) (hj : j < n) : w.cell? ⟨q + 2 + n, j, none⟩ = some (.bool (!rest (fun t => (O t).toNat) s j)) :=
  h.gone.cell j _ (by rw [full_get]; simp [hj])
end

theorem In.at_ {w : World} {so : Option Addr} {n cap : Nat} {Z : Nat → Int} (h : In w so n cap Z) (hn : 0 < n) : ∃ b off, so = some ⟨b, off, none⟩ ∧ ∀ i, i < n → w.cell? ⟨b, off + i, none⟩ = some (.int .i64 (Z i)) := by
  rcases h with ⟨_, h0, _⟩ | ⟨b, off, s, rfl, hs, hc⟩
  · omega
  · exact ⟨b, off, by rw [hs hn], hc⟩
theorem In.below {w w' : World} {so : Option Addr} {n cap : Nat} {Z : Nat → Int} (h : In w so n cap Z) (hb : Below w.heap.size w w') : In w' so n cap Z := by
  rcases h with h0 | ⟨b, off, s, rfl, hs, hc⟩
  · exact .inl h0
  · exact .inr ⟨b, off, s, rfl, hs, fun i hi => (hb.cell (p := ⟨b, off + i, none⟩) (block_lt_of_cell (hc i hi))).trans (hc i hi)⟩
theorem Own.below {w w' : World} {so : Option Addr} {c n : Nat} {Z : Nat → Int} {M : Nat} (h : Own w so c n Z) (hb : Below M w w') (hc : 0 < n → c < M) : Own w' so c n Z :=
  ⟨h.at_, fun i hi => (hb.cell (p := ⟨c, i, none⟩) (hc (by omega))).trans (h.cells i hi)⟩

theorem run_start {w w3 w5 : World} {q n : Nat} {Z O : Nat → Int} {so : Option Addr} {c : Nat} {so2 : Option Addr} {c2 : Nat} (h : Built w3 w5 q n Z so c) (h2 : Own w5 so2 c2 n O) (hlt2 : 0 < n → c2 < q) (hb : Below w.heap.size w w5) (hge : w.heap.size ≤ q) :
    Run w (w5.alloc (.cells (madeCells #[.bool false] n) 4)) q n Z O so c so2 c2 0 (hd0 n) (tl0 n) (nx0 n) pv0 := by
  refine ⟨h.st.alloc _, h.ws.alloc _, h.own.alloc _, h2.alloc _, ?_, h.lt, hlt2, hb.alloc hb.size _, hge⟩
  rw [← h.size, gone_none]
  exact heap_alloc_new w5 _

/-- The state of the first loop: s entries of the order have been looked at. -/
structure Seen (w wr : World) (n : Nat) (O : Nat → Int) (s : Nat) : Prop where
  good : Good O n s
  seen : Blk wr w.heap.size (full (fun i => .bool (!rest (fun t => (O t).toNat) s i)) n) 4
  below : Below w.heap.size w wr
  size : w.heap.size < wr.heap.size
theorem seen_start (w : World) (n m : Nat) (O : Nat → Int) : Seen w ((w.alloc (.cells (madeCells #[.bool false] n) 4)).drewN m) n O 0 := by
  refine ⟨fun t ht => by omega, Blk.drewN ((show Blk (w.alloc (.cells (madeCells #[.bool false] n) 4)) w.heap.size _ 4 from heap_alloc_new w _).to ?_) m, ((Below.refl _ _).alloc (Nat.le_refl _) _).trans ⟨rfl, rfl, rfl, Nat.le_refl _, fun _ _ => rfl⟩, by simp⟩
  exact gone_none n
theorem seen_step {w wr : World} {n : Nat} {O : Nat → Int} {s : Nat} (h : Seen w wr n O s) (h0 : 0 ≤ O s) (h1 : O s < (n : Int)) (h2 : rest (fun t => (O t).toNat) s (O s).toNat = true) :
    Seen w (wr.setCell ⟨w.heap.size, (O s).toNat, none⟩ (.bool true)) n O (s + 1) := by
  refine ⟨fun t ht => ?_, (h.seen.set _ _).to ?_, h.below.setCell (p := ⟨w.heap.size, (O s).toNat, none⟩) (Nat.le_refl _) _, by simp [h.size]⟩
  · by_cases e : t = s
    · subst e; exact ⟨h0, h1, h2⟩
    · exact h.good t (by omega)
  · rw [full_set]
    refine full_congr (fun i _ => ?_)
    show (if i = (O s).toNat then Value.bool true else _) = Value.bool (!kill (rest (fun t => (O t).toNat) s) (O s).toNat i)
    by_cases e : i = (O s).toNat <;> simp [kill, e]

set_option maxRecDepth 100000 in
set_option maxHeartbeats 4000000 in
theorem anyorder_run (so : Option Addr) (n cap : Nat) (Z : Nat → Int) (so1 : Option Addr) (cap1 : Nat) (O : Nat → Int) (w : World) (hn : n ≤ 1024) (h : In w so n cap Z) (h' : In w so1 n cap1 O) :
    Calls Try.prog 9 #[.slice so n cap, .slice so1 n cap1] w fun e w' => e = .returned (.bool true) ∧ Below w.heap.size w w' := by
  have h1 : ¬ (1024 : Int) < (n : Int) := by omega
  have h2 : ((n : Int) != (n : Int)) = false := by simp
  have hmk := fun (w : World) => run_make_row' (P := Try.prog) 39 4 (.bool false) 1 Try.underlying39 info4 rfl .i64 .i64 n (by omega) (by omega) w
  go_enter Try.func9, Try.ntmps9
  go_wp2_with fail
  refine (bytes27_any _ _ _ _ _ _ _).mono ?_
  rintro e w' ⟨⟨r, rfl⟩, hw⟩
  have hw2 := hw.symm
  subst hw2
  cases r
  · go_wp2
    go_ret
    exact ⟨rfl, Below.refl _ _⟩
  · clear hw
    go_wp2_with fail
    refine (sorted_any so n cap Z _ (by omega) h).mono ?_
    rintro e w1 ⟨r, m, rfl, rfl, -⟩
    cases r
    · go_wp2
      go_ret
      exact ⟨rfl, below_drewN w m⟩
    · go_wp2_with fail
      go_loopw [7] (fun i wr => ∃ s : Nat, s ≤ n ∧ i = .int .i64 s ∧ Seen w wr n O s) (fun i _ => n - (intOf i).toNat)
      case atStart => exact ⟨0, Nat.zero_le _, rfl, seen_start w n m O⟩
      case round =>
        obtain ⟨s, hs, rfl, hS⟩ := hrel
        by_cases hlt : s < n
        · obtain ⟨b1, off1, e1, hc1⟩ := (h'.below hS.below).at_ (by omega)
          subst e1
          have co := hc1 s hlt
          have bs : (s : Int) < (n : Int) := by omega
          clear hc1
          by_cases p0 : O s < 0
          · go_wp2
            go_ret
            exact ⟨rfl, hS.below⟩
          · by_cases p1 : O s < (n : Int)
            · have cs : wr.cell? ⟨w.heap.size, (O s).toNat, none⟩ = some (.bool (!rest (fun t => (O t).toNat) s (O s).toNat)) := hS.seen.cell _ _ (by rw [full_get, if_pos (by omega)])
              have fs := hS.seen.frozen (O s).toNat
              have p2 : 0 ≤ O s := by omega
              cases hr : rest (fun t => (O t).toNat) s (O s).toNat with
              | false =>
                rw [hr] at cs
                clear hr
                go_wp2
                go_ret
                exact ⟨rfl, hS.below⟩
              | true =>
                rw [hr] at cs
                have HR : Hid (rest (fun t => (O t).toNat) s (O s).toNat = true) := hr
                clear hr
                go_wp2
                go_roundw
                case rel => exact ⟨s + 1, by omega, by go_num, seen_step hS p2 p1 HR.out⟩
                case measure => simp [intOf]; omega
            · have p2 : (n : Int) ≤ O s := by omega
              go_wp2
              go_ret
              exact ⟨rfl, hS.below⟩
        · obtain rfl : n = s := by omega
          have hG := hS.good
          have hin := h.below hS.below
          have hin' := h'.below hS.below
          have hbel := hS.below
          clear h h' hS hlt
          go_wp2_with fail
          refine (copyL_any so n cap Z _ (by omega) hin).mono ?_
          rintro e w2 ⟨so', cp', rfl, ho, hb, hlt⟩
          have hin2 := hin'.below hb
          go_wp2_with fail
          refine (copyI_any so1 n cap1 O _ (by omega) hin2).mono ?_
          rintro e w3 ⟨so2, cp2, rfl, ho2, hb2, hlt2⟩
          have ho3 := ho.below (hb2.mono (Nat.le_refl _)) hlt
          have hbel3 := (hbel.trans (hb.mono hbel.size)).trans (hb2.mono (hbel.trans (hb.mono hbel.size)).size)
          have hlt3 : 0 < n → wr.heap.size < w3.heap.size := fun x => Nat.lt_of_lt_of_le (hlt x) hb2.size
          clear hin hin' hin2 ho hb hb2 hlt hbel
          go_wp2_with fail
          refine (newQueue_any so' _ n cp' Z w3 (by omega) ho3.at_ ho3.cells).mono ?_
          rintro e w4 ⟨rfl, h2, hs4, hz4, hb4⟩
          go_wp2_with fail
          refine (built_lock (w0 := w3) (Below.refl _ _) ho3 hlt3 h2 hs4 hz4 hb4).mono ?_
          rintro e w5 ⟨rfl, hB⟩
          have ho5 := ho2.below hB.below hlt2
          have hbel5 := hbel3.trans (hB.below.mono hbel3.size)
          have hge := hbel3.size
          clear ho3 hlt3 h2 hs4 hz4 hb4 ho2 hbel3
          go_wp2_with fail
          rw [hB.size]
          obtain ⟨q, c, c2, hR, hq⟩ : ∃ q c c2, Run w (w5.alloc (.cells (madeCells #[.bool false] n) 4)) q n Z O so' c so2 c2 0 (hd0 n) (tl0 n) (nx0 n) pv0 ∧ q = w3.heap.size :=
            ⟨_, _, _, run_start hB ho5 hlt2 hbel5 hge, rfl⟩
          rw [← hq]
          clear hq hB ho5 hlt2 hbel5 hge hmk
          have hne := neq_same
          go_loopw [12] (fun i wz => ∃ (s : Nat) (hd tl : Option Nat) (nx pv : Nat → Option Nat), s ≤ n ∧ i = .int .i64 s ∧ Run w wz q n Z O so' c so2 c2 s hd tl nx pv) (fun i _ => n - (intOf i).toNat)
          case atStart => exact ⟨0, _, _, _, _, Nat.zero_le _, rfl, hR⟩
          case round =>
            obtain ⟨s, hd, tl, nx, pv, hs, rfl, hR⟩ := hrel
            by_cases hlt : s < n
            · have e1 := hR.own.at_ (by omega)
              have e2 := hR.own2.at_ (by omega)
              subst e1
              subst e2
              obtain ⟨g0, g1, g2⟩ := hG s hlt
              have G2 : Hid (rest (fun t => (O t).toNat) s (O s).toNat = true) := g2
              clear g2
              have bs : (s : Int) < (n : Int) := by omega
              have co := hR.own2.cells s hlt
              have cw := ws_cell hR.ws (O s).toNat (by omega)
              go_wp2_with fail
              refine (zzUnlink_state hR.st (by omega) (O s).toNat (by omega) G2.out).mono ?_
              rintro e wx ⟨rfl, hQ, hF⟩
              have cg : wx.cell? ⟨q + 2 + n, (O s).toNat, none⟩ = some (.bool (!rest (fun t => (O t).toNat) s (O s).toNat)) :=
                (World.cell?_of_block (w := wr) (a := ⟨q + 2 + n, (O s).toNat, none⟩) (hF.block (q + 2 + n) (by omega) (.inr (Nat.le_refl _)))).trans (hR.goneCell _ (by omega))
              have fg : wx.frozen? ⟨q + 2 + n, (O s).toNat, none⟩ = false :=
                (World.frozen?_of_block (w := wr) (a := ⟨q + 2 + n, (O s).toNat, none⟩) (hF.block (q + 2 + n) (by omega) (.inr (Nat.le_refl _)))).trans (hR.gone.frozen _)
              have hR' := hR.step hQ hF
              clear hR hQ hF co cw
              go_wp2_with fail
              refine (listIs_any hR'.st hR'.ws hR'.own hR'.gone (by omega)).mono ?_
              rintro e wy ⟨rfl, m', hwy⟩
              obtain ⟨hd', tl', nx', pv', hR''⟩ : ∃ hd' tl' nx' pv', Run w wy q n Z O (some ⟨c, 0, none⟩) c (some ⟨c2, 0, none⟩) c2 (s + 1) hd' tl' nx' pv' := ⟨_, _, _, _, by rw [hwy]; exact hR'.drewN m'⟩
              clear hwy hR' cg fg
              go_wp2_with fail
              go_loopw [14, 15] (fun fk i wz => ∃ j : Nat, j ≤ n ∧ i = .int .i64 j ∧ fk = .int .i64 (-1) ∧ wz = wy ∧ Hid (∀ i, i < j → rest (fun t => (O t).toNat) (s + 1) i = false)) (fun _ i _ => n - (intOf i).toNat)
              case atStart => exact ⟨0, Nat.zero_le _, rfl, rfl, rfl, fun i hi => by omega⟩
              case round =>
                obtain ⟨j, hj, rfl, rfl, hwz, hA⟩ := hrel
                subst hwz
                by_cases hjn : j < n
                · have bj : (j : Int) < (n : Int) := by omega
                  have cg := hR''.goneCell j hjn
                  cases ha : rest (fun t => (O t).toNat) (s + 1) j with
                  | false =>
                    rw [ha] at cg
                    have HA : Hid (rest (fun t => (O t).toNat) (s + 1) j = false) := ha
                    clear ha
                    go_wp2
                    go_roundw
                    case rel =>
                      refine ⟨j + 1, by omega, by go_num, rfl, trivial, fun i hi => ?_⟩
                      by_cases e : i = j
                      · rw [e]; exact HA.out
                      · exact hA.out i (by omega)
                    case measure => simp [intOf]; omega
                  | true =>
                    rw [ha] at cg
                    have eh : Hid (hd' = some j) := hR''.st.lk.first.uniq (o' := some j) ⟨Nat.zero_le _, hjn, ha, fun i _ b => hA.out i b⟩
                    clear ha
                    have cz := hR''.own.cells j hjn
                    have b0 : (0 : Int) ≤ (j : Int) := by omega
                    go_wp2_with fail
                    go_quiet ((go_at_call 22; exact Calls.quiet_of_same ((hR''.st.drewN _).front j eh.out)))
                    go_wp2
                    go_roundw
                    case rel => exact ⟨s + 1, _, _, _, _, by omega, by go_num, hR''.drewN _⟩
                    case measure => simp [intOf]; omega
                · have bn : decide ((0 : Int) ≤ -1) = false := by decide
                  go_wp2_with fail
                  go_quiet (fail)
                  go_wp2
                  go_roundw
                  case rel => exact ⟨s + 1, _, _, _, _, by omega, by go_num, hR''.drewN _⟩
                  case measure => simp [intOf]; omega
            · obtain rfl : n = s := by omega
              have dead := rest_end hG
              have E1 : Hid (hd = none) := hR.st.lk.first.uniq (o' := none) (fun i _ b => dead i b)
              have E2 : Hid (tl = none) := hR.st.lk.last.uniq (o' := none) (fun i b => dead i b)
              clear dead
              have hQ := hR.st
              go_wp2_with (first | (go_at_call 12; refine calls_same (hQ.head0 E1.out) ?_) | (go_at_call 13; refine calls_same (hQ.tail0 E2.out) ?_) | (go_at_call 14; refine calls_same (hQ.oldest0 E1.out) ?_) | (go_at_call 11; refine calls_same hQ.guardP ?_))
              go_ret
              exact ⟨rfl, hR.below⟩

set_option maxHeartbeats 1000000 in
theorem bytes27_is (a : Option Addr) (len cap : Nat) (a1 : Option Addr) (len1 cap1 : Nat) (w : World) : ∃ r, Calls Try.prog 27 #[.slice a len cap, .slice a1 len1 cap1] w fun e w' => e = .returned (.bool r) ∧ w' = w := by
  by_cases h : len ≤ 1048576
  · by_cases h2 : len1 ≤ 1048576
    · by_cases h3 : len + len1 ≤ 1048576
      · refine ⟨true, ?_⟩
        go_enter Try.func27, Try.ntmps27
        go_wp2
        go_ret
        exact ⟨rfl, rfl⟩
      · refine ⟨false, ?_⟩
        go_enter Try.func27, Try.ntmps27
        go_wp2
        go_ret
        exact ⟨rfl, rfl⟩
    · refine ⟨false, ?_⟩
      go_enter Try.func27, Try.ntmps27
      go_wp2
      go_ret
      exact ⟨rfl, rfl⟩
  · refine ⟨false, ?_⟩
    go_enter Try.func27, Try.ntmps27
    go_wp2
    go_ret
    exact ⟨rfl, rfl⟩
set_option maxHeartbeats 1000000 in
theorem anyorder_short (a : Option Addr) (n cap : Nat) (a1 : Option Addr) (n1 cap1 : Nat) (w : World) (hs : ¬ n ≤ 1024 ∨ ¬ n1 ≤ 1024 ∨ ¬ n1 = n) :
    Calls Try.prog 9 #[.slice a n cap, .slice a1 n1 cap1] w fun e w' => e = .returned (.bool true) ∧ Below w.heap.size w w' := by
  have H : ∀ r : Bool, Calls Try.prog 27 #[.slice a n cap, .slice a1 n1 cap1] w (fun e w' => e = .returned (.bool r) ∧ w' = w) → Calls Try.prog 9 #[.slice a n cap, .slice a1 n1 cap1] w fun e w' => e = .returned (.bool true) ∧ Below w.heap.size w w' := by
    intro r hc0
    have hc : Hid (Calls Try.prog 27 #[.slice a n cap, .slice a1 n1 cap1] w (fun e w' => e = .returned (.bool r) ∧ w' = w)) := hc0
    clear hc0
    cases r
    · clear hs
      go_enter Try.func9, Try.ntmps9
      go_wp2_with fail
      refine calls_same hc.out ?_
      go_wp2
      go_ret
      exact ⟨rfl, Below.refl _ _⟩
    · by_cases h1 : n ≤ 1024
      · have c1 : ¬ (1024 : Int) < (n : Int) := by omega
        by_cases h2 : n1 ≤ 1024
        · have c2 : ¬ (1024 : Int) < (n1 : Int) := by omega
          have h3 : ¬ n1 = n := by omega
          have c3 : ((n1 : Int) != (n : Int)) = true := by rw [bne_iff_ne]; omega
          clear hs h3
          go_enter Try.func9, Try.ntmps9
          go_wp2_with fail
          refine calls_same hc.out ?_
          go_wp2
          go_ret
          exact ⟨rfl, Below.refl _ _⟩
        · have c2 : (1024 : Int) < (n1 : Int) := by omega
          clear hs
          go_enter Try.func9, Try.ntmps9
          go_wp2_with fail
          refine calls_same hc.out ?_
          go_wp2
          go_ret
          exact ⟨rfl, Below.refl _ _⟩
      · have c1 : (1024 : Int) < (n : Int) := by omega
        clear hs
        go_enter Try.func9, Try.ntmps9
        go_wp2_with fail
        refine calls_same hc.out ?_
        go_wp2
        go_ret
        exact ⟨rfl, Below.refl _ _⟩
  obtain ⟨r, hr⟩ := bytes27_is a n cap a1 n1 cap1 w
  exact H r hr
theorem anyorder_walk (so : Option Addr) (n cap : Nat) (Z : Nat → Int) (so1 : Option Addr) (n1 cap1 : Nat) (O : Nat → Int) (w : World) (h : In w so n cap Z) (h' : In w so1 n1 cap1 O) :
    Calls Try.prog 9 #[.slice so n cap, .slice so1 n1 cap1] w fun e w' => e = .returned (.bool true) ∧ Below w.heap.size w w' := by
  by_cases hs : ¬ n ≤ 1024 ∨ ¬ n1 ≤ 1024 ∨ ¬ n1 = n
  · exact anyorder_short so n cap so1 n1 cap1 w hs
  · obtain rfl : n1 = n := by omega
    exact anyorder_run so n1 cap Z so1 cap1 O w (by omega) h h'
end Go.Proofs.Qxb6604623a
