/-
  THE PLAIN LAW of seat b6600850a: no Go in sight. The children's range of a node, and how many of them are marked.
-/
namespace Go.Proofs.Qxb6600850a.Plain

/-- The first child's position, as the Go text reckons it. -/
def kFirst (d s v : Int) : Int := if (s - 2).tdiv d < v then s else d * v + 1
/-- The position behind the last child. -/
def kEnd (d s v : Int) : Int := if (s - 2).tdiv d < v then s else d * v + 1 + min d (s - (d * v + 1))

theorem tdiv_cases (d s : Int) (hd : 1 ≤ d) (hs : 1 ≤ s) : (s = 1 ∧ ((s - 2).tdiv d = 0 ∨ (s - 2).tdiv d = -1)) ∨ (2 ≤ s ∧ (s - 2).tdiv d = (s - 2) / d) := by
  by_cases h : s = 1
  · subst h
    refine .inl ⟨rfl, ?_⟩
    by_cases h1 : d = 1
    · subst h1; right; decide
    · left
      have : (1 : Int).tdiv d = 0 := Int.tdiv_eq_zero_of_lt (by omega) (by omega)
      have e : (1 - 2 : Int) = -1 := by decide
      rw [e, Int.neg_tdiv, this]; rfl
  · refine .inr ⟨by omega, ?_⟩
    exact Int.tdiv_eq_ediv_of_nonneg (by omega)

/-- Where the node has children by the test, 'degree * v' does not reach past the tree. -/
theorem mul_le (d s v : Int) (hd : 1 ≤ d) (hs : 1 ≤ s) (hv : 0 ≤ v) (h : ¬ (s - 2).tdiv d < v) : 0 ≤ d * v ∧ d * v ≤ s - 1 := by
  refine ⟨Int.mul_nonneg (by omega) hv, ?_⟩
  rcases tdiv_cases d s hd hs with ⟨rfl, e | e⟩ | ⟨h2, e⟩
  · have : v = 0 := by omega
    subst this; simp
  · omega
  · rw [e] at h
    have h1 : v ≤ (s - 2) / d := by omega
    have h2 := (Int.le_ediv_iff_mul_le (by omega : 0 < d)).1 h1
    rw [Int.mul_comm] at h2
    omega

theorem range (d s v : Int) (hd : 1 ≤ d) (hs : 1 ≤ s) (hv : 0 ≤ v) : 1 ≤ kFirst d s v ∧ kFirst d s v ≤ kEnd d s v ∧ kEnd d s v ≤ s := by
  unfold kFirst kEnd
  by_cases h : (s - 2).tdiv d < v
  · simp only [if_pos h]; omega
  · simp only [if_neg h]
    have := mul_le d s v hd hs hv h
    omega

/-- A node's child on a way lies in its children's range. -/
theorem child_in (d s v c : Int) (hd : 1 ≤ d) (hs : 1 ≤ s) (hc1 : 1 ≤ c) (hcs : c < s) (e : (c - 1) / d = v) : kFirst d s v ≤ c ∧ c < kEnd d s v := by
  have hv : 0 ≤ v := by rw [← e]; exact Int.ediv_nonneg (by omega) (by omega)
  have h1 : v * d ≤ c - 1 := by rw [← e]; exact Int.ediv_mul_le _ (by omega)
  have h2 : c - 1 < (v + 1) * d := by rw [← e]; exact Int.lt_ediv_add_one_mul_self _ (by omega)
  have h3 : (v + 1) * d = v * d + d := by rw [Int.add_mul]; omega
  have h4 : d * v = v * d := Int.mul_comm _ _
  have hle : ¬ (s - 2).tdiv d < v := by
    rcases tdiv_cases d s hd hs with ⟨rfl, _⟩ | ⟨h5, e5⟩
    · omega
    · rw [e5]
      have : v ≤ (s - 2) / d := (Int.le_ediv_iff_mul_le (by omega : 0 < d)).2 (by omega)
      omega
  unfold kFirst kEnd
  simp only [if_neg hle]
  omega

/-- How many of the first k children, from 'start' on and wrapping round, are marked. -/
def cnt (h : Nat → Bool) (F st n : Int) : Nat → Nat
  | 0 => 0
  | k + 1 => cnt h F st n k + if h (F + (st + (k : Int)) % n).toNat then 1 else 0

theorem cnt_le (h : Nat → Bool) (F st n : Int) (k : Nat) : cnt h F st n k ≤ k := by
  induction k with
  | zero => exact Nat.le_refl _
  | succ k ih => unfold cnt; split <;> omega

theorem cnt_up (h : Nat → Bool) (F st n : Int) (j k : Nat) (hjk : j ≤ k) : cnt h F st n j ≤ cnt h F st n k := by
  induction k with
  | zero => obtain rfl : j = 0 := by omega
            exact Nat.le_refl _
  | succ k ih =>
    by_cases e : j = k + 1
    · subst e; exact Nat.le_refl _
    · have := ih (by omega)
      exact Nat.le_trans this (Nat.le_add_right _ _)

theorem cnt_mono (h g : Nat → Bool) (F st n : Int) (k : Nat) (hm : ∀ j, j < k → h (F + (st + (j : Int)) % n).toNat = true → g (F + (st + (j : Int)) % n).toNat = true) : cnt h F st n k ≤ cnt g F st n k := by
  induction k with
  | zero => exact Nat.le_refl _
  | succ k ih =>
    have h1 := ih fun j hj => hm j (by omega)
    have h2 := hm k (by omega)
    unfold cnt
    by_cases e : h (F + (st + (k : Int)) % n).toNat = true
    · simp only [e, h2 e, if_true]; omega
    · rw [if_neg e]; exact Nat.le_trans h1 (Nat.le_add_right _ _)

/-- The place of a round's child lies in the children's range. -/
theorem place (F st n : Int) (k : Nat) (hn : 0 < n) : F ≤ F + (st + (k : Int)) % n ∧ F + (st + (k : Int)) % n < F + n := by
  have h1 := Int.emod_nonneg (st + (k : Int)) (by omega : n ≠ 0)
  have h2 := Int.emod_lt_of_pos (st + (k : Int)) hn
  omega

#print axioms child_in
#print axioms cnt_mono
end Go.Proofs.Qxb6600850a.Plain
