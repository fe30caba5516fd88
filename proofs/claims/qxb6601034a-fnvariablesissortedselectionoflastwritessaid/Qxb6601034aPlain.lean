/-
  THE PLAIN LAWS of seat b6601034a: no Go in sight. Keys K, sources S, variables V by their index; the last write of each key; how many there are.
-/
namespace Go.Proofs.Qxb6601034a.Plain
set_option linter.unusedSectionVars false
set_option linter.unusedSimpArgs false

/-- Does x stand among the first m? -/
def occ {α : Type} [BEq α] (f : Nat → α) (m : Nat) (x : α) : Bool := (List.range m).any fun i => f i == x

section
variable {α : Type} [BEq α] [LawfulBEq α]

theorem occ_iff (f : Nat → α) (m : Nat) (x : α) : occ f m x = true ↔ ∃ i, i < m ∧ f i = x := by
  simp [occ, List.any_eq_true]

theorem occ_zero (f : Nat → α) (x : α) : occ f 0 x = false := rfl

theorem occ_succ (f : Nat → α) (m : Nat) (x : α) : occ f (m + 1) x = (occ f m x || (f m == x)) := by
  simp [occ, List.range_succ, List.any_append]

theorem occ_false (f : Nat → α) (m : Nat) (x : α) (h : ∀ i, i < m → ¬ f i = x) : occ f m x = false := by
  cases e : occ f m x with
  | false => rfl
  | true =>
    obtain ⟨i, hi, he⟩ := (occ_iff f m x).1 e
    exact absurd he (h i hi)

theorem occ_true (f : Nat → α) (m : Nat) (x : α) (i : Nat) (hi : i < m) (h : f i = x) : occ f m x = true := (occ_iff f m x).2 ⟨i, hi, h⟩

/-- The last of the first k places that holds x. -/
def lastOf (f : Nat → α) : Nat → α → Option Nat
  | 0, _ => none
  | k + 1, x => if f k == x then some k else lastOf f k x

theorem lastOf_some {f : Nat → α} {k : Nat} {x : α} {i : Nat} (h : lastOf f k x = some i) : i < k ∧ f i = x ∧ ∀ j, i < j → j < k → ¬ f j = x := by
  induction k with
  | zero => simp [lastOf] at h
  | succ k ih =>
    unfold lastOf at h
    split at h
    · rename_i e
      cases h
      exact ⟨by omega, eq_of_beq e, fun j h1 h2 => by omega⟩
    · rename_i e
      obtain ⟨h1, h2, h3⟩ := ih h
      refine ⟨by omega, h2, fun j hj hk he => ?_⟩
      by_cases e2 : j = k
      · subst e2; exact e (by simp [he])
      · exact h3 j hj (by omega) he

theorem lastOf_mk {f : Nat → α} {k : Nat} {x : α} {i : Nat} (h1 : i < k) (h2 : f i = x) (h3 : ∀ j, i < j → j < k → ¬ f j = x) : lastOf f k x = some i := by
  induction k with
  | zero => omega
  | succ k ih =>
    unfold lastOf
    by_cases e : i = k
    · subst e; simp [h2]
    · rw [if_neg (by have := h3 k (by omega) (by omega); simpa using this)]
      exact ih (by omega) (fun j hj hk => h3 j hj (by omega))

theorem lastOf_none {f : Nat → α} {k : Nat} {x : α} (h : lastOf f k x = none) : occ f k x = false := by
  induction k with
  | zero => rfl
  | succ k ih =>
    unfold lastOf at h
    split at h
    · cases h
    · rename_i e
      rw [occ_succ, ih h]; simpa using e

theorem lastOf_isSome (f : Nat → α) (k : Nat) (x : α) : (lastOf f k x).isSome = occ f k x := by
  cases h : lastOf f k x with
  | none => rw [lastOf_none h]; rfl
  | some i =>
    obtain ⟨h1, h2, _⟩ := lastOf_some h
    rw [occ_true f k x i h1 h2]; rfl

/-- Is i the last place of its key among the first n? -/
def isLast (f : Nat → α) (n i : Nat) : Bool := lastOf f n (f i) == some i

theorem isLast_iff (f : Nat → α) (n i : Nat) (hi : i < n) : isLast f n i = true ↔ ∀ j, i < j → j < n → ¬ f j = f i := by
  unfold isLast
  constructor
  · intro h
    exact (lastOf_some (eq_of_beq h)).2.2
  · intro h
    rw [lastOf_mk hi rfl h]; simp

/-- The places that are last and answer p. -/
def lasts (f : Nat → α) (n : Nat) (p : Nat → Bool) : List Nat := (List.range n).filter fun i => isLast f n i && p i

theorem mem_lasts {f : Nat → α} {n : Nat} {p : Nat → Bool} {i : Nat} : i ∈ lasts f n p ↔ i < n ∧ isLast f n i = true ∧ p i = true := by
  simp [lasts]

/-- A filter whose test is turned on at one more place. -/
theorem filter_more (n : Nat) (p q : Nat → Bool) (i : Nat) (hi : i < n) (hp : p i = false) (hq : ∀ j, j < n → q j = (p j || (j == i))) : ((List.range n).filter q).Perm ((List.range n).filter p ++ [i]) := by
  induction n with
  | zero => omega
  | succ n ih =>
    rw [List.range_succ, List.filter_append, List.filter_append]
    have hqn := hq n (by omega)
    by_cases e : i = n
    · subst e
      have h1 : (List.range i).filter q = (List.range i).filter p := by
        apply List.filter_congr
        intro j hj
        have hj' := List.mem_range.1 hj
        rw [hq j (by omega)]
        have : (j == i) = false := by simp; omega
        rw [this, Bool.or_false]
      rw [h1]
      simp [hqn, hp]
    · have hni : (n == i) = false := by simp; omega
      rw [hni, Bool.or_false] at hqn
      have h1 := ih (by omega) (fun j hj => hq j (by omega))
      cases hpn : p n with
      | false => simp [hqn, hpn]; exact h1
      | true =>
        simp only [List.filter_cons, hqn, hpn, if_true, List.filter_nil]
        refine (h1.append_right [n]).trans ?_
        rw [List.append_assoc, List.append_assoc]
        exact List.Perm.append_left _ (List.Perm.swap _ _ _)

theorem filter_len_or (l : List Nat) (p q : Nat → Bool) (h : ∀ j ∈ l, p j = true → q j = false) : (l.filter fun j => p j || q j).length = (l.filter p).length + (l.filter q).length := by
  induction l with
  | nil => rfl
  | cons a l ih =>
    have h1 := ih fun j hj => h j (List.mem_cons_of_mem _ hj)
    have h2 := h a (List.mem_cons_self ..)
    cases hp : p a <;> cases hq : q a <;> simp [List.filter_cons, hp, hq] <;> simp_all <;> omega

/-- How many of the first m places hold a key that was not there before. -/
def firsts (f : Nat → α) : Nat → Nat
  | 0 => 0
  | m + 1 => firsts f m + if occ f m (f m) then 0 else 1

theorem firsts_le (f : Nat → α) (m : Nat) : firsts f m ≤ m := by
  induction m with
  | zero => exact Nat.le_refl _
  | succ m ih => unfold firsts; split <;> omega

/-- Of one key there is just one last place, if there is one. -/
theorem lasts_one (f : Nat → α) (n : Nat) (x : α) : ((List.range n).filter fun i => isLast f n i && (f i == x)).length = if occ f n x then 1 else 0 := by
  cases h : lastOf f n x with
  | none =>
    rw [lastOf_none h]
    have : (List.range n).filter (fun i => isLast f n i && (f i == x)) = [] := by
      rw [List.filter_eq_nil_iff]
      intro i hi hc
      simp only [Bool.and_eq_true] at hc
      have := lastOf_none h
      rw [occ_true f n x i (List.mem_range.1 hi) (eq_of_beq hc.2)] at this
      cases this
    rw [this]; rfl
  | some i =>
    obtain ⟨h1, h2, h3⟩ := lastOf_some h
    rw [occ_true f n x i h1 h2]
    have hp := filter_more n (fun _ => false) (fun j => isLast f n j && (f j == x)) i h1 rfl (by
      intro j hj
      simp only [Bool.false_or]
      by_cases e : j = i
      · subst e
        rw [(isLast_iff f n j hj).2 (by rw [h2]; exact h3)]; simp [h2]
      · have e1 : (j == i) = false := by simpa using e
        rw [e1]
        cases hl : isLast f n j with
        | false => rfl
        | true =>
          have hl' := (isLast_iff f n j hj).1 hl
          simp only [Bool.true_and]
          rw [beq_eq_false_iff_ne]
          intro hx
          rcases Nat.lt_or_gt_of_ne e with hlt | hgt
          · exact hl' i hlt h1 (by rw [h2, hx])
          · exact h3 j hgt hj hx)
    rw [hp.length_eq]
    simp

/-- THERE ARE AS MANY LAST PLACES AS THERE ARE KEYS. -/
theorem lasts_count (f : Nat → α) (n : Nat) : ((List.range n).filter fun i => isLast f n i).length = firsts f n := by
  induction n with
  | zero => rfl
  | succ n ih =>
    have hn : isLast f (n + 1) n = true := (isLast_iff f (n + 1) n (by omega)).2 (fun j h1 h2 => by omega)
    have h1 : (List.range n).filter (fun i => isLast f (n + 1) i) = (List.range n).filter (fun i => isLast f n i && !(f i == f n)) := by
      apply List.filter_congr
      intro i hi
      have hi' := List.mem_range.1 hi
      rw [Bool.eq_iff_iff, isLast_iff f (n + 1) i (by omega), Bool.and_eq_true, isLast_iff f n i hi']
      simp only [Bool.not_eq_true', beq_eq_false_iff_ne]
      constructor
      · intro h
        exact ⟨fun j hj hk => h j hj (by omega), fun e => h n hi' (by omega) e.symm⟩
      · rintro ⟨ha, hb⟩ j hj hk
        by_cases e : j = n
        · subst e; exact fun e => hb e.symm
        · exact ha j hj (by omega)
    have h2 := filter_len_or (List.range n) (fun i => isLast f n i && !(f i == f n)) (fun i => isLast f n i && (f i == f n)) (by
      intro j _ hj
      simp only [Bool.and_eq_true, Bool.not_eq_true'] at hj
      simp [hj.2])
    have h3 : (List.range n).filter (fun i => (isLast f n i && !(f i == f n)) || (isLast f n i && (f i == f n))) = (List.range n).filter fun i => isLast f n i := by
      apply List.filter_congr
      intro i _
      cases isLast f n i <;> cases (f i == f n) <;> rfl
    rw [h3, ih, lasts_one] at h2
    rw [List.range_succ, List.filter_append, h1]
    simp only [List.filter_cons, hn, if_true, List.filter_nil, List.length_append, List.length_cons, List.length_nil]
    unfold firsts
    split <;> simp_all <;> omega

/-- Of the last places those whose source stands among the first m sources. -/
def part {β : Type} [BEq β] (f : Nat → α) (S : Nat → β) (n m : Nat) : Nat := ((List.range n).filter fun j => isLast f n j && occ S m (S j)).length

theorem part_zero {β : Type} [BEq β] [LawfulBEq β] (f : Nat → α) (S : Nat → β) (n : Nat) : part f S n 0 = 0 := by
  unfold part
  rw [List.length_eq_zero_iff, List.filter_eq_nil_iff]
  intro j _
  simp [occ_zero]

/-- A new source adds its own. -/
theorem part_new {β : Type} [BEq β] [LawfulBEq β] (f : Nat → α) (S : Nat → β) (n m : Nat) (h : occ S m (S m) = false) : part f S n (m + 1) = part f S n m + (lasts f n fun j => S j == S m).length := by
  unfold part lasts
  rw [← filter_len_or]
  · congr 1
    apply List.filter_congr
    intro j _
    rw [occ_succ]
    have : (S m == S j) = (S j == S m) := by rw [Bool.eq_iff_iff]; constructor <;> intro h <;> simp [eq_of_beq h]
    rw [this]
    cases isLast f n j <;> simp
  · intro j _ hj
    simp only [Bool.and_eq_true] at hj
    rw [Bool.and_eq_false_iff]
    right
    rw [beq_eq_false_iff_ne]
    intro e
    rw [e, h] at hj
    cases hj.2

/-- A source that was there adds nothing. -/
theorem part_old {β : Type} [BEq β] [LawfulBEq β] (f : Nat → α) (S : Nat → β) (n m : Nat) (h : occ S m (S m) = true) : part f S n (m + 1) = part f S n m := by
  unfold part
  congr 1
  apply List.filter_congr
  intro j _
  rw [occ_succ]
  by_cases e : S m = S j
  · rw [← e, h]; simp
  · have : (S m == S j) = false := by simpa using e
    rw [this, Bool.or_false]

theorem part_le {β : Type} [BEq β] (f : Nat → α) (S : Nat → β) (n m : Nat) : part f S n m ≤ n := by
  unfold part
  exact Nat.le_trans (List.length_filter_le ..) (by simp)

/-- SUMMED OVER ALL SOURCES EACH KEY COUNTS ONCE. -/
theorem part_all {β : Type} [BEq β] [LawfulBEq β] (f : Nat → α) (S : Nat → β) (n : Nat) : part f S n n = firsts f n := by
  rw [← lasts_count]
  unfold part
  congr 1
  apply List.filter_congr
  intro j hj
  rw [occ_true S n (S j) j (List.mem_range.1 hj) rfl, Bool.and_true]

end
#print axioms part_all
end Go.Proofs.Qxb6601034a.Plain
