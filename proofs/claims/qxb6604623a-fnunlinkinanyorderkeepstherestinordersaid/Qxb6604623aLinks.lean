/-
  The plain law of a doubly linked list over the places 0 .. n-1, some of which are live: who is next, who is before, and what taking one out does. No Go here.
-/
namespace Go.Proofs.Qxb6604623a

/-- o is the least live place in [lo, hi). -/
def IsNx (al : Nat → Bool) (lo hi : Nat) : Option Nat → Prop
  | none => ∀ i, lo ≤ i → i < hi → al i = false
  | some k => lo ≤ k ∧ k < hi ∧ al k = true ∧ ∀ i, lo ≤ i → i < k → al i = false
/-- o is the greatest live place below hi. -/
def IsPv (al : Nat → Bool) (hi : Nat) : Option Nat → Prop
  | none => ∀ i, i < hi → al i = false
  | some k => k < hi ∧ al k = true ∧ ∀ i, k < i → i < hi → al i = false

theorem IsNx.uniq {al : Nat → Bool} {lo hi : Nat} {o o' : Option Nat} (h : IsNx al lo hi o) (h' : IsNx al lo hi o') : o = o' := by
  cases o with
  | none =>
    cases o' with
    | none => rfl
    | some k => obtain ⟨a, b, c, _⟩ := h'; have := h k a b; simp_all
  | some k =>
    cases o' with
    | none => obtain ⟨a, b, c, _⟩ := h; have := h' k a b; simp_all
    | some k' =>
      obtain ⟨a, b, c, d⟩ := h
      obtain ⟨a', b', c', d'⟩ := h'
      rcases Nat.lt_trichotomy k k' with e | e | e
      · have := d' k a e; simp_all
      · rw [e]
      · have := d k' a' e; simp_all

theorem IsPv.uniq {al : Nat → Bool} {hi : Nat} {o o' : Option Nat} (h : IsPv al hi o) (h' : IsPv al hi o') : o = o' := by
  cases o with
  | none =>
    cases o' with
    | none => rfl
    | some k => obtain ⟨b, c, _⟩ := h'; have := h k b; simp_all
  | some k =>
    cases o' with
    | none => obtain ⟨b, c, _⟩ := h; have := h' k b; simp_all
    | some k' =>
      obtain ⟨b, c, d⟩ := h
      obtain ⟨b', c', d'⟩ := h'
      rcases Nat.lt_trichotomy k k' with e | e | e
      · have := d k' e b'; simp_all
      · rw [e]
      · have := d' k e b; simp_all

theorem IsNx.at {al : Nat → Bool} {j n : Nat} {o : Option Nat} (h : IsNx al j n o) (hj : j < n) (ha : al j = true) : o = some j :=
  h.uniq (o' := some j) ⟨Nat.le_refl _, hj, ha, fun i a b => by omega⟩
theorem IsNx.skip {al : Nat → Bool} {j n : Nat} {o : Option Nat} (h : IsNx al j n o) (ha : al j = false) : IsNx al (j + 1) n o := by
  cases o with
  | none => exact fun i a b => h i (by omega) b
  | some k =>
    obtain ⟨a, b, c, d⟩ := h
    have : k ≠ j := fun e => by rw [e, ha] at c; cases c
    exact ⟨by omega, b, c, fun i x y => d i (by omega) y⟩
theorem IsNx.end_ {al : Nat → Bool} {n : Nat} {o : Option Nat} (h : IsNx al n n o) : o = none :=
  h.uniq (o' := none) (fun i a b => by omega)
theorem IsPv.skip {al : Nat → Bool} {j : Nat} {o : Option Nat} (h : IsPv al j o) (ha : al j = false) : IsPv al (j + 1) o := by
  cases o with
  | none =>
    intro i hi
    by_cases e : i = j
    · rw [e]; exact ha
    · exact h i (by omega)
  | some k =>
    obtain ⟨b, c, d⟩ := h
    refine ⟨by omega, c, fun i x y => ?_⟩
    by_cases e : i = j
    · rw [e]; exact ha
    · exact d i x (by omega)
theorem IsPv.take {al : Nat → Bool} {j : Nat} (ha : al j = true) : IsPv al (j + 1) (some j) :=
  ⟨by omega, ha, fun i a b => by omega⟩
theorem IsPv.zero {al : Nat → Bool} : IsPv al 0 none := fun i h => by omega

/-- One place is no longer live. -/
def kill (al : Nat → Bool) (j : Nat) : Nat → Bool := fun i => if i = j then false else al i
theorem kill_self (al : Nat → Bool) (j : Nat) : kill al j j = false := by simp [kill]
theorem kill_ne (al : Nat → Bool) (j i : Nat) (h : i ≠ j) : kill al j i = al i := by simp [kill, h]
theorem kill_false {al : Nat → Bool} {j i : Nat} (h : al i = false) : kill al j i = false := by unfold kill; split <;> simp_all

theorem IsNx.kill_none {al : Nat → Bool} {lo hi : Nat} (j : Nat) (h : IsNx al lo hi none) : IsNx (kill al j) lo hi none := fun i a b => kill_false (h i a b)
theorem IsNx.kill_other {al : Nat → Bool} {lo hi k : Nat} (j : Nat) (h : IsNx al lo hi (some k)) (hk : k ≠ j) : IsNx (kill al j) lo hi (some k) := by
  obtain ⟨a, b, c, d⟩ := h
  exact ⟨a, b, by rw [kill_ne _ _ _ hk]; exact c, fun i x y => kill_false (d i x y)⟩
theorem IsNx.kill_at {al : Nat → Bool} {lo hi j : Nat} {o : Option Nat} (h : IsNx al lo hi (some j)) (h2 : IsNx al (j + 1) hi o) : IsNx (kill al j) lo hi o := by
  obtain ⟨a, b, c, d⟩ := h
  have low : ∀ i, lo ≤ i → i < j + 1 → kill al j i = false := by
    intro i x y
    by_cases e : i = j
    · rw [e]; exact kill_self al j
    · exact kill_false (d i x (by omega))
  cases o with
  | none =>
    intro i x y
    by_cases e : i < j + 1
    · exact low i x e
    · exact kill_false (h2 i (by omega) y)
  | some k =>
    obtain ⟨a2, b2, c2, d2⟩ := h2
    refine ⟨by omega, b2, by rw [kill_ne _ _ _ (by omega)]; exact c2, fun i x y => ?_⟩
    by_cases e : i < j + 1
    · exact low i x e
    · exact kill_false (d2 i (by omega) y)
theorem IsPv.kill_none {al : Nat → Bool} {hi : Nat} (j : Nat) (h : IsPv al hi none) : IsPv (kill al j) hi none := fun i b => kill_false (h i b)
theorem IsPv.kill_other {al : Nat → Bool} {hi k : Nat} (j : Nat) (h : IsPv al hi (some k)) (hk : k ≠ j) : IsPv (kill al j) hi (some k) := by
  obtain ⟨b, c, d⟩ := h
  exact ⟨b, by rw [kill_ne _ _ _ hk]; exact c, fun i x y => kill_false (d i x y)⟩
theorem IsPv.kill_at {al : Nat → Bool} {hi j : Nat} {o : Option Nat} (h : IsPv al hi (some j)) (h2 : IsPv al j o) : IsPv (kill al j) hi o := by
  obtain ⟨b, c, d⟩ := h
  have high : ∀ i, j ≤ i → i < hi → kill al j i = false := by
    intro i x y
    by_cases e : i = j
    · rw [e]; exact kill_self al j
    · exact kill_false (d i (by omega) y)
  cases o with
  | none =>
    intro i y
    by_cases e : j ≤ i
    · exact high i e y
    · exact kill_false (h2 i (by omega))
  | some k =>
    obtain ⟨b2, c2, d2⟩ := h2
    refine ⟨by omega, by rw [kill_ne _ _ _ (by omega)]; exact c2, fun i x y => ?_⟩
    by_cases e : j ≤ i
    · exact high i e y
    · exact kill_false (d2 i x (by omega))

/-- The links are right for the live places. -/
structure Lk (al : Nat → Bool) (n : Nat) (hd tl : Option Nat) (nx pv : Nat → Option Nat) : Prop where
  first : IsNx al 0 n hd
  last : IsPv al n tl
  nexts : ∀ j, j < n → al j = true → IsNx al (j + 1) n (nx j)
  prevs : ∀ j, j < n → al j = true → IsPv al j (pv j)
  dead : ∀ j, j < n → al j = false → nx j = none ∧ pv j = none

def hdOff (hd : Option Nat) (nx pv : Nat → Option Nat) (j : Nat) : Option Nat := match pv j with | none => nx j | some _ => hd
def tlOff (tl : Option Nat) (nx pv : Nat → Option Nat) (j : Nat) : Option Nat := match nx j with | none => pv j | some _ => tl
def nxOff (nx pv : Nat → Option Nat) (j i : Nat) : Option Nat := if i = j then none else if pv j = some i then nx j else nx i
def pvOff (nx pv : Nat → Option Nat) (j i : Nat) : Option Nat := if i = j then none else if nx j = some i then pv j else pv i

section
variable {al : Nat → Bool} {n : Nat} {hd tl : Option Nat} {nx pv : Nat → Option Nat}

/-- The next of i is j just where the one before j is i. -/
theorem Lk.next_of (h : Lk al n hd tl nx pv) {i j : Nat} (hj : j < n) (aj : al j = true) (hp : pv j = some i) : i < j ∧ al i = true ∧ nx i = some j := by
  have p := h.prevs j hj aj
  rw [hp] at p
  obtain ⟨b, c, d⟩ := p
  refine ⟨b, c, ?_⟩
  exact (h.nexts i (by omega) c).uniq (o' := some j) ⟨by omega, hj, aj, fun k x y => d k (by omega) y⟩
theorem Lk.prev_of (h : Lk al n hd tl nx pv) {i j : Nat} (hi : i < n) (ai : al i = true) (hn : nx i = some j) : i < j ∧ j < n ∧ al j = true ∧ pv j = some i := by
  have p := h.nexts i hi ai
  rw [hn] at p
  obtain ⟨a, b, c, d⟩ := p
  exact ⟨by omega, b, c, (h.prevs j b c).uniq (o' := some i) ⟨by omega, ai, fun k x y => d k (by omega) y⟩⟩
theorem Lk.hd_of (h : Lk al n hd tl nx pv) {j : Nat} (hj : j < n) (aj : al j = true) (hp : pv j = none) : hd = some j := by
  have p := h.prevs j hj aj
  rw [hp] at p
  exact h.first.uniq (o' := some j) ⟨Nat.zero_le _, hj, aj, fun i _ y => p i y⟩
theorem Lk.hd_live (h : Lk al n hd tl nx pv) {j : Nat} (e : hd = some j) : j < n ∧ al j = true ∧ pv j = none := by
  have p := h.first
  rw [e] at p
  obtain ⟨a, b, c, d⟩ := p
  exact ⟨b, c, (h.prevs j b c).uniq (o' := none) (fun i y => d i (Nat.zero_le _) y)⟩
theorem Lk.tl_of (h : Lk al n hd tl nx pv) {j : Nat} (hj : j < n) (aj : al j = true) (hp : nx j = none) : tl = some j := by
  have p := h.nexts j hj aj
  rw [hp] at p
  exact h.last.uniq (o' := some j) ⟨hj, aj, fun i x y => p i (by omega) y⟩
theorem Lk.tl_live (h : Lk al n hd tl nx pv) {j : Nat} (e : tl = some j) : j < n ∧ al j = true ∧ nx j = none := by
  have p := h.last
  rw [e] at p
  obtain ⟨b, c, d⟩ := p
  exact ⟨b, c, (h.nexts j b c).uniq (o' := none) (fun i x y => d i (by omega) y)⟩

theorem Lk.off (h : Lk al n hd tl nx pv) {j : Nat} (hj : j < n) (aj : al j = true) :
    Lk (kill al j) n (hdOff hd nx pv j) (tlOff tl nx pv j) (nxOff nx pv j) (pvOff nx pv j) := by
  refine ⟨?_, ?_, ?_, ?_, ?_⟩
  · unfold hdOff
    cases hp : pv j with
    | none =>
      have e := h.hd_of hj aj hp
      have p := h.first
      rw [e] at p
      exact p.kill_at (h.nexts j hj aj)
    | some i =>
      cases e : hd with
      | none => have p := h.first; rw [e] at p; exact p.kill_none j
      | some k =>
        have p := h.first
        rw [e] at p
        refine p.kill_other j (fun x => ?_)
        subst x
        have := (h.hd_live e).2.2
        rw [hp] at this
        cases this
  · unfold tlOff
    cases hp : nx j with
    | none =>
      have e := h.tl_of hj aj hp
      have p := h.last
      rw [e] at p
      exact p.kill_at (h.prevs j hj aj)
    | some i =>
      cases e : tl with
      | none => have p := h.last; rw [e] at p; exact p.kill_none j
      | some k =>
        have p := h.last
        rw [e] at p
        refine p.kill_other j (fun x => ?_)
        subst x
        have := (h.tl_live e).2.2
        rw [hp] at this
        cases this
  · intro i hi ai
    have ne : i ≠ j := fun e => by rw [e, kill_self] at ai; cases ai
    rw [kill_ne _ _ _ ne] at ai
    unfold nxOff
    rw [if_neg ne]
    have p := h.nexts i hi ai
    split
    · rename_i hp
      have e := (h.next_of hj aj hp).2.2
      rw [e] at p
      exact p.kill_at (h.nexts j hj aj)
    · rename_i hp
      cases e : nx i with
      | none => rw [e] at p; exact p.kill_none j
      | some k =>
        rw [e] at p
        refine p.kill_other j (fun x => ?_)
        subst x
        exact hp (h.prev_of hi ai e).2.2.2
  · intro i hi ai
    have ne : i ≠ j := fun e => by rw [e, kill_self] at ai; cases ai
    rw [kill_ne _ _ _ ne] at ai
    unfold pvOff
    rw [if_neg ne]
    have p := h.prevs i hi ai
    split
    · rename_i hp
      have e := (h.prev_of hj aj hp).2.2.2
      rw [e] at p
      exact p.kill_at (h.prevs j hj aj)
    · rename_i hp
      cases e : pv i with
      | none => rw [e] at p; exact p.kill_none j
      | some k =>
        rw [e] at p
        refine p.kill_other j (fun x => ?_)
        subst x
        exact hp (h.next_of hi ai e).2.2
  · intro i hi ai
    by_cases e : i = j
    · subst e; simp [nxOff, pvOff]
    · rw [kill_ne _ _ _ e] at ai
      have d := h.dead i hi ai
      have n1 : pv j ≠ some i := fun hp => by have := (h.next_of hj aj hp).2.1; simp_all
      have n2 : nx j ≠ some i := fun hp => by have := (h.prev_of hj aj hp).2.2.1; simp_all
      simp [nxOff, pvOff, e, n1, n2, d]
end

/-- The links of a list all of whose places are live. -/
def hd0 (n : Nat) : Option Nat := if n = 0 then none else some 0
def tl0 (n : Nat) : Option Nat := if n = 0 then none else some (n - 1)
def nx0 (n j : Nat) : Option Nat := if j + 1 < n then some (j + 1) else none
def pv0 (j : Nat) : Option Nat := if j = 0 then none else some (j - 1)
theorem Lk.start (n : Nat) : Lk (fun _ => true) n (hd0 n) (tl0 n) (nx0 n) pv0 := by
  refine ⟨?_, ?_, ?_, ?_, ?_⟩
  · unfold hd0
    split
    · exact fun i a b => by omega
    · exact ⟨by omega, by omega, rfl, fun i a b => by omega⟩
  · unfold tl0
    split
    · exact fun i b => by omega
    · exact ⟨by omega, rfl, fun i a b => by omega⟩
  · intro j hj _
    unfold nx0
    split
    · exact ⟨by omega, by omega, rfl, fun i a b => by omega⟩
    · exact fun i a b => by omega
  · intro j hj _
    unfold pv0
    split
    · exact fun i b => by omega
    · exact ⟨by omega, rfl, fun i a b => by omega⟩
  · intro j hj a
    cases a

end Go.Proofs.Qxb6604623a
