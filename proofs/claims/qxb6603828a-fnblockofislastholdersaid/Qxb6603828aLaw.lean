/-
  The walk of FnBlockOfIsLastHolder.
-/
import Derived.Test.Qxb6603828aBlockOf
import Derived.Lib.Builder
import Derived.Deep.DeepCutAuto
namespace Go.Proofs.Qxb6603828a
open Go.RowKit

theorem info66 : (Try.prog.info? 66).isSome = true := by kernel_rfl
/-- A pointer to a block against itself. -/
theorem neq_same (u : Option Addr) (w : World) : (binOp .neq 47 (.pointer u) (.pointer u)).run Try.prog w = .ok (.bool false) w := by
  cases u with
  | none => exact (run_neq_pointer_nil w 47 none Try.underlying47).trans rfl
  | some a =>
    obtain ⟨j, hj⟩ := Option.isSome_iff_exists.1 info66
    exact Lib.run_neq_ptr_same w a Try.underlying47 hj
theorem neq_key (a b : Key) (w : World) : (binOp .neq 41 (.agg #[.int .u64 a.v, .int .u64 a.o, .int .u8 a.k]) (.agg #[.int .u64 b.v, .int .u64 b.o, .int .u8 b.k])).run Try.prog w = .ok (.bool (!a.same b)) w := run_neq_uuid a b w
theorem neq_key_self (a : Key) (w : World) : (binOp .neq 41 (.agg #[.int .u64 a.v, .int .u64 a.o, .int .u8 a.k]) (.agg #[.int .u64 a.v, .int .u64 a.o, .int .u8 a.k])).run Try.prog w = .ok (.bool false) w := by
  rw [neq_key, Key.same_self]; rfl
theorem calls_same {P : Program} {f : FuncId} {args : Array Value} {w : World} {v : Value} {R : Ending → World → Prop} (h : Calls P f args w fun e w' => e = .returned v ∧ w' = w) (k : R (.returned v) w) : Calls P f args w R :=
  h.mono (by rintro e w' ⟨rfl, rfl⟩; exact k)

theorem elementEvent_key (b e n c j : Nat) (a : Key) (w : World) (h : w.cell? ⟨b, 0, none⟩ = some (.slice (some ⟨e, 0, none⟩) n c)) (hj : j < n)
    (h0 : w.cell? ⟨e, j * 4, none⟩ = some (.int .u64 a.v)) (h1 : w.cell? ⟨e, j * 4 + 1, none⟩ = some (.int .u64 a.o)) (h2 : w.cell? ⟨e, j * 4 + 2, none⟩ = some (.int .u8 a.k)) (hb : b < w.heap.size) (he : e < w.heap.size) :
    Calls Try.prog 23 #[.pointer (some ⟨b, 0, none⟩), .int .i64 j] w fun e w' => e = .returned (.agg #[.int .u64 a.v, .int .u64 a.o, .int .u8 a.k]) ∧ w' = w.alloc (.cells #[.int .u64 a.v, .int .u64 a.o, .int .u8 a.k] 41) :=
  elementEvent_any b e n c j a w h hj h0 h1 h2 hb he
def kcells (a : Key) : Array Value := #[.int .u64 a.v, .int .u64 a.o, .int .u8 a.k]
/-- The state of the law behind build: the two queries lie in blocks Q and Q + 1. -/
structure St (S : Src) (w0 w : World) (a0 : Option Addr) (lb sb : Nat) (bb eb : Nat → Nat) (Q : Nat) (q1 q2 : Key) : Prop where
  inn : In S w0 a0
  sq : ∃ mo, Sq S w lb sb bb eb mo
  b1 : Blk w Q (kcells q1) 41
  b2 : Blk w (Q + 1) (kcells q2) 41
  below : Below w0.heap.size w0 w
  ge : w0.heap.size ≤ sb

section
variable {S : Src} {w0 w w' : World} {a0 : Option Addr} {lb sb : Nat} {bb eb : Nat → Nat} {Q : Nat} {q1 q2 : Key}
theorem St.grow (h : St S w0 w a0 lb sb bb eb Q q1 q2) (hb : Below w.heap.size w w') : St S w0 w' a0 lb sb bb eb Q q1 q2 := by
  obtain ⟨mo, hs⟩ := h.sq
  exact ⟨h.inn, ⟨mo, hs.grown hb⟩, h.b1.below hb h.b1.lt, h.b2.below hb h.b2.lt, h.below.trans (hb.mono h.below.size), h.ge⟩
theorem St.drew (h : St S w0 w a0 lb sb bb eb Q q1 q2) : St S w0 w.drew a0 lb sb bb eb Q q1 q2 := h.grow (Below.refl _ _).drew
theorem St.drewN (h : St S w0 w a0 lb sb bb eb Q q1 q2) (m : Nat) : St S w0 (w.drewN m) a0 lb sb bb eb Q q1 q2 := h.grow ⟨rfl, rfl, rfl, Nat.le_refl _, fun _ _ => rfl⟩
theorem St.alloc (h : St S w0 w a0 lb sb bb eb Q q1 q2) (o : Obj) : St S w0 (w.alloc o) a0 lb sb bb eb Q q1 q2 := h.grow ((Below.refl _ _).alloc (Nat.le_refl _) _)
theorem St.left (h : St S w0 w a0 lb sb bb eb Q q1 q2) (hl : Left S w w' lb sb bb eb) : St S w0 w' a0 lb sb bb eb Q q1 q2 := by
  obtain ⟨mo, hs⟩ := h.sq
  obtain ⟨r, hr⟩ := hl.sq
  have hge := h.ge
  have k : ∀ {b : Nat} {cs : Array Value}, Blk w b cs 41 → Blk w' b cs 41 := fun {b cs} hb => (hl.gr.block b hb.lt (fun e => hb.ne hs.sq (by decide) (by simpa using e))).trans hb
  exact ⟨h.inn, ⟨some r, hr⟩, k h.b1, k h.b2, h.below.trans ⟨hl.gr.os, hl.gr.tape, hl.gr.output, hl.gr.size, fun b hb => hl.gr.block b (by have := h.below.size; omega) (fun e => by simp at e; omega)⟩, hge⟩
theorem St.inw (h : St S w0 w a0 lb sb bb eb Q q1 q2) : In S w a0 := h.inn.below h.below
theorem St.blc (h : St S w0 w a0 lb sb bb eb Q q1 q2) (k : Nat) (hk : k < S.N) : w.cell? ⟨lb, k, none⟩ = some (.pointer (some ⟨bb k, 0, none⟩)) := by
  obtain ⟨mo, hs⟩ := h.sq
  exact hs.bl.cell k _ (bpart_full bb S.N k hk)
theorem St.call28 (h : St S w0 w a0 lb sb bb eb Q q1 q2) (hS : Small S) (a : Key) :
    Calls Try.prog 28 #[.pointer (some ⟨sb, 0, none⟩), .agg #[.int .u64 a.v, .int .u64 a.o, .int .u8 a.k]] w fun e w' => Ans (lastK S bb a S.N) e ∧ St S w0 w' a0 lb sb bb eb Q q1 q2 := by
  obtain ⟨mo, hs⟩ := h.sq
  exact (zzBlockOf_any S lb sb bb eb mo a w hs hS).mono fun e w' hx => ⟨hx.1, h.left hx.2⟩
theorem St.call29 (h : St S w0 w a0 lb sb bb eb Q q1 q2) (hS : Small S) (cap : Nat) (a : Key) :
    Calls Try.prog 29 #[.slice a0 S.N cap, .slice (some ⟨lb, 0, none⟩) S.N S.N, .agg #[.int .u64 a.v, .int .u64 a.o, .int .u8 a.k]] w fun e w' => Ans (lastK S bb a S.N) e ∧ St S w0 w' a0 lb sb bb eb Q q1 q2 :=
  (lastHolder_any S a0 cap lb bb a w h.inw hS h.blc).mono fun _ _ hx => ⟨hx.1, h.grow hx.2⟩
theorem St.c1 (h : St S w0 w a0 lb sb bb eb Q q1 q2) : w.cell? ⟨Q, 0, none⟩ = some (.int .u64 q1.v) ∧ w.cell? ⟨Q, 1, none⟩ = some (.int .u64 q1.o) ∧ w.cell? ⟨Q, 2, none⟩ = some (.int .u8 q1.k) :=
  ⟨h.b1.cell 0 _ rfl, h.b1.cell 1 _ rfl, h.b1.cell 2 _ rfl⟩
theorem St.c2 (h : St S w0 w a0 lb sb bb eb Q q1 q2) : w.cell? ⟨Q + 1, 0, none⟩ = some (.int .u64 q2.v) ∧ w.cell? ⟨Q + 1, 1, none⟩ = some (.int .u64 q2.o) ∧ w.cell? ⟨Q + 1, 2, none⟩ = some (.int .u8 q2.k) :=
  ⟨h.b2.cell 0 _ rfl, h.b2.cell 1 _ rfl, h.b2.cell 2 _ rfl⟩
end

/-- Behind build and the two queries. -/
theorem st_start {S : Src} {w0 w3 : World} {a0 : Option Addr} {sb : Nat} {bb eb : Nat → Nat} (hin : In S w0 a0) (h : Blt S w0 w3 sb bb eb) (q1 q2 : Key) :
    St S w0 ((w3.alloc (.cells #[.int .u64 q1.v, .int .u64 q1.o, .int .u8 q1.k] 41)).alloc (.cells #[.int .u64 q2.v, .int .u64 q2.o, .int .u8 q2.k] 41)) a0 w0.heap.size sb bb eb w3.heap.size q1 q2 := by
  have hs : Sq S w3 w0.heap.size sb bb eb none := ⟨h.bld.bl, h.bld.bk, h.bld.el, h.sq, fun r e => by cases e⟩
  have hb : Below w3.heap.size w3 ((w3.alloc (.cells #[.int .u64 q1.v, .int .u64 q1.o, .int .u8 q1.k] 41)).alloc (.cells #[.int .u64 q2.v, .int .u64 q2.o, .int .u8 q2.k] 41)) := ((Below.refl _ _).alloc (Nat.le_refl _) _).alloc (by simp) _
  refine ⟨hin, ⟨none, hs.grown hb⟩, ?_, ?_, h.bld.below.trans (hb.mono h.bld.below.size), Nat.le_of_lt h.ge⟩
  · exact Blk.alloc (show Blk (w3.alloc (.cells #[.int .u64 q1.v, .int .u64 q1.o, .int .u8 q1.k] 41)) w3.heap.size (kcells q1) 41 from heap_alloc_new w3 _) _
  · have g := heap_alloc_new (w3.alloc (.cells #[.int .u64 q1.v, .int .u64 q1.o, .int .u8 q1.k] 41)) (.cells #[.int .u64 q2.v, .int .u64 q2.o, .int .u8 q2.k] 41)
    rw [World.size_alloc] at g
    exact g

set_option maxRecDepth 100000 in
set_option maxHeartbeats 4000000 in
theorem law_run (S : Src) (a0 : Option Addr) (cap : Nat) (q1 q2 : Key) (w : World) (h : In S w a0) :
    Calls Try.prog 7 #[.slice a0 S.N cap, .int .u64 q1.v, .int .u64 q1.o, .int .u8 q1.k, .int .u64 q2.v, .int .u64 q2.o, .int .u8 q2.k] w fun e w' => e = .returned (.bool true) ∧ Below w.heap.size w w' := by
  go_enter Try.func7, Try.ntmps7
  go_wp2_with fail
  refine (bytes_any S a0 cap _ _ _ _ _ _ w h).mono ?_
  rintro e w' ⟨⟨r, rfl⟩, hw⟩
  have hw2 := hw.symm
  subst hw2
  clear hw
  cases r
  · go_wp2
    go_ret
    exact ⟨rfl, Below.refl _ _⟩
  · go_wp2_with fail
    refine (sizeOK_any S a0 cap w h).mono ?_
    rintro e w' ⟨⟨r, rfl, hr⟩, hw⟩
    have hw2 := hw.symm
    subst hw2
    clear hw
    cases r
    · go_wp2
      go_ret
      exact ⟨rfl, Below.refl _ _⟩
    · have hS := hr rfl
      clear hr
      go_wp2_with fail
      refine (build_any S a0 cap w h hS).mono ?_
      rintro e w3 ⟨sb, bb, eb, rfl, hB⟩
      have hst := st_start h hB q1 q2
      clear hB
      obtain ⟨lb, hlb⟩ : ∃ lb, lb = w.heap.size := ⟨_, rfl⟩
      rw [← hlb] at hst
      rw [← hlb]
      obtain ⟨u1, hu1⟩ := lastK_ptr S bb q1 S.N
      obtain ⟨u2, hu2⟩ := lastK_ptr S bb q2 S.N
      have HU1 : Hid (lastK S bb q1 S.N = .pointer u1) := hu1
      have HU2 : Hid (lastK S bb q2 S.N = .pointer u2) := hu2
      clear hu1 hu2 hlb
      have hne := neq_same
      go_upto_region 8 with fail
      obtain ⟨Q, hQ⟩ : ∃ Q, Q = w3.heap.size := ⟨_, rfl⟩
      obtain ⟨wx, hwx⟩ : ∃ wx, wx = (w3.alloc (.cells #[.int .u64 q1.v, .int .u64 q1.o, .int .u8 q1.k] 41)).alloc (.cells #[.int .u64 q2.v, .int .u64 q2.o, .int .u8 q2.k] 41) := ⟨_, rfl⟩
      rw [← hwx] at hst
      rw [← hwx]
      rw [← hQ] at hst
      rw [← hQ]
      clear hwx hQ
      go_cut [53] (fun s wc => s = .bool false ∧ St S w wc a0 lb sb bb eb Q q1 q2)
      case first =>
        obtain ⟨x0, x1, x2⟩ := hst.c1
        go_region_with (first | (go_at_call 28; refine (hst.drew.call28 hS q1).mono ?_; rintro e w4 ⟨he, hst4⟩; unfold Ans at he; rw [HU1.out] at he; subst he; obtain ⟨y0, y1, y2⟩ := hst4.c1) | (go_at_call 29; refine (hst4.call29 hS cap q1).mono ?_; rintro e w5 ⟨he, hst5⟩; unfold Ans at he; rw [HU1.out] at he; subst he))
        all_goals (go_wp2_with fail; go_meet; exact ⟨rfl, hst5⟩)
      case rest =>
      clear hst
      obtain ⟨rfl, hst⟩ := hcut
      clear wx
      obtain ⟨wx, rfl⟩ : ∃ wx, wx = wc := ⟨wc, rfl⟩
      go_upto_region 10 with fail
      go_cut [61] (fun s wc => s = .bool false ∧ St S w wc a0 lb sb bb eb Q q1 q2)
      case first =>
        obtain ⟨x0, x1, x2⟩ := hst.c2
        go_region_with (first | (go_at_call 28; refine (hst.drew.call28 hS q2).mono ?_; rintro e w4 ⟨he, hst4⟩; unfold Ans at he; rw [HU2.out] at he; subst he; obtain ⟨y0, y1, y2⟩ := hst4.c2) | (go_at_call 29; refine (hst4.call29 hS cap q2).mono ?_; rintro e w5 ⟨he, hst5⟩; unfold Ans at he; rw [HU2.out] at he; subst he))
        all_goals (go_wp2_with fail; go_meet; exact ⟨rfl, hst5⟩)
      case rest =>
      clear hst
      obtain ⟨rfl, hst⟩ := hcut
      clear wx
      obtain ⟨wx, rfl⟩ : ∃ wx, wx = wc := ⟨wc, rfl⟩
      go_upto_region 12 with fail
      go_cut [69] (fun s wc => s = .bool false ∧ St S w wc a0 lb sb bb eb Q q1 q2)
      case first =>
        obtain ⟨x0, x1, x2⟩ := hst.c1
        go_region_with (first | (go_at_call 28; refine (hst.drew.call28 hS q1).mono ?_; rintro e w4 ⟨he, hst4⟩; unfold Ans at he; rw [HU1.out] at he; subst he; obtain ⟨y0, y1, y2⟩ := hst4.c1) | (go_at_call 29; refine (hst4.call29 hS cap q1).mono ?_; rintro e w5 ⟨he, hst5⟩; unfold Ans at he; rw [HU1.out] at he; subst he))
        all_goals (go_wp2_with fail; go_meet; exact ⟨rfl, hst5⟩)
      case rest =>
      clear hst
      obtain ⟨rfl, hst⟩ := hcut
      clear wx HU1 HU2
      obtain ⟨wx, rfl⟩ : ∃ wx, wx = wc := ⟨wc, rfl⟩
      go_wp2_with fail
      go_loopw [19] (fun i wr => ∃ k : Nat, k ≤ S.N ∧ i = .int .i64 k ∧ St S w wr a0 lb sb bb eb Q q1 q2) (fun i _ => S.N - (intOf i).toNat)
      case atStart => exact ⟨0, Nat.zero_le _, rfl, hst⟩
      case round =>
        clear hst
        obtain ⟨k, hk, rfl, hst⟩ := hrel
        obtain ⟨wk, rfl⟩ : ∃ wk, wk = wr := ⟨wr, rfl⟩
        by_cases hlt : k < S.N
        · have bk : (k : Int) < (S.N : Int) := by have := hS.1; omega
          have hLk := hS.2 k hlt
          have hN := hS.1
          have ho := h.out (by omega)
          subst ho
          have ck := hst.inw.cell k hlt
          have cb := hst.blc k hlt
          obtain ⟨mo, hsq⟩ := hst.sq
          have cl : wk.cell? ⟨bb k, 0, none⟩ = some (.slice (some ⟨eb k, 0, none⟩) (S.L k) (S.L k)) := (hsq.bk k hlt).cell 0 _ rfl
          clear hsq
          go_wp2_with fail
          go_quiet ((go_at_call 21; exact Calls.quiet_of_same (blockLen_any (bb k) _ _ _ _ cl)))
          clear ck cb cl
          go_wp2_with fail
          go_loopw [20] (fun i wz => ∃ j : Nat, j ≤ S.L k ∧ i = .int .i64 j ∧ St S w wz (some ⟨S.ob, S.oo, none⟩) lb sb bb eb Q q1 q2) (fun i _ => S.L k - (intOf i).toNat)
          case atStart => exact ⟨0, Nat.zero_le _, rfl, hst.drewN _⟩
          case round =>
            clear hst
            obtain ⟨j, hj, rfl, hst⟩ := hrel
            have hin := hst.inw
            have ck := hin.cell k hlt
            by_cases hlj : j < S.L k
            · have eA := hin.row k hlt (by omega)
              rw [eA] at ck
              clear eA
              have bj : (j : Int) < (S.L k : Int) := by omega
              have cb := hst.blc k hlt
              have e3 := hin.el3 k j hlt hlj
              obtain ⟨mo, hsq⟩ := hst.sq
              have cl : wr.cell? ⟨bb k, 0, none⟩ = some (.slice (some ⟨eb k, 0, none⟩) (S.L k) (S.L k)) := (hsq.bk k hlt).cell 0 _ rfl
              have d3 := (hsq.els k j hlt hlj).2.2.2
              clear hsq hin
              go_wp2_with fail
              go_quiet ((go_at_call 22; exact Calls.quiet_of_same (elementRemoved_any (bb k) (eb k) _ _ j (S.R k j) _ cl hlj d3)))
              obtain ⟨wy, hwy⟩ : ∃ wy, wy = wr.drewN nq := ⟨_, rfl⟩
              rw [← hwy]
              have hsty : St S w wy (some ⟨S.ob, S.oo, none⟩) lb sb bb eb Q q1 q2 := by rw [hwy]; exact hst.drewN _
              clear hwy hst ck cb e3 cl d3
              have hin := hsty.inw
              have ck := hin.cell k hlt
              have eA := hin.row k hlt (by omega)
              rw [eA] at ck
              clear eA
              have cb := hsty.blc k hlt
              have e0 := hin.el0 k j hlt hlj
              have e1 := hin.el1 k j hlt hlj
              have e2 := hin.el2 k j hlt hlj
              have e3 := hin.el3 k j hlt hlj
              have obl := hin.obLt hlt
              have rbl := hin.rbLt hlt hlj
              have obl1 : S.ob < wy.heap.size + 1 := by omega
              have rbl1 : S.rb k < wy.heap.size + 1 := by omega
              obtain ⟨mo, hsq⟩ := hsty.sq
              have lbl : lb < wy.heap.size := hsq.bl.lt
              have bbl : bb k < wy.heap.size := (hsq.bk k hlt).lt
              have ebl : eb k < wy.heap.size := (hsq.el k hlt).lt
              have cl : wy.cell? ⟨bb k, 0, none⟩ = some (.slice (some ⟨eb k, 0, none⟩) (S.L k) (S.L k)) := (hsq.bk k hlt).cell 0 _ rfl
              obtain ⟨g0, g1, g2, -⟩ := hsq.els k j hlt hlj
              have hnk := neq_key_self (S.E k j)
              clear hsq hin
              go_wp2_with fail
              go_region_with (first | (go_at_call 23; refine (elementEvent_key (bb k) (eb k) _ _ j (S.E k j) wy.drew cl hlj g0 g1 g2 bbl ebl).mono ?_; rintro e w4 ⟨rfl, rfl⟩) | (go_at_call 16; refine (uuidOf_key (S.E k j) _ _).mono ?_; rintro e w5 ⟨rfl, rfl⟩))
              all_goals go_wp2
              all_goals
                go_roundw
                case rel => exact ⟨j + 1, by omega, by go_num, (((hsty.alloc _).alloc _).alloc _).drew⟩
                case measure => simp [intOf]; omega
            · go_wp2
              go_roundw
              case rel => exact ⟨k + 1, by omega, by go_num, hst⟩
              case measure => simp [intOf]; omega
        · go_wp2
          go_ret
          exact ⟨rfl, hst.below⟩
end Go.Proofs.Qxb6603828a
