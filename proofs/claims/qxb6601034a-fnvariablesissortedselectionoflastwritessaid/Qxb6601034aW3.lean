/-
  THE WALKS of seat b6601034a, third part: Variables: the range over the map, the sort.
-/
import Derived.Test.Qxb6601034aW2
import Derived.Test.Qxb6601034aSort
import Derived.Sort.OwnSorted
import Derived.Sort.KeysCollected
namespace Go.Proofs.Qxb6601034a
open Go.RowKit Plain Go.Maps Go.Sort
set_option linter.unusedVariables false
set_option linter.unusedSectionVars false

/-! ### What was collected: a permutation of the last writes' variables that are no longer to come -/
section
variable {α : Type} [BEq α] [LawfulBEq α]
theorem lasts_hit (f : Nat → α) (n : Nat) (p : Nat → Bool) (L L' : α → Bool) (x : α) (i : Nat) (hi : lastOf f n x = some i) (hL : L x = true) (hL' : ∀ y, L' y = (L y && !(y == x))) (hp : p i = true) :
    (lasts f n fun j => p j && !L' (f j)).Perm ((lasts f n fun j => p j && !L (f j)) ++ [i]) := by
  obtain ⟨h1, h2, h3⟩ := lastOf_some hi
  unfold lasts
  refine filter_more n _ _ i h1 (by simp [h2, hL]) ?_
  intro j hj
  by_cases e : j = i
  · subst e
    rw [(isLast_iff f n j hj).2 (by rw [h2]; exact h3)]
    simp [hp, hL', h2]
  · have e1 : (j == i) = false := by simpa using e
    rw [e1, Bool.or_false]
    cases hl : isLast f n j with
    | false => rfl
    | true =>
      have hx : (f j == x) = false := by
        rw [beq_eq_false_iff_ne]
        intro hx
        have := (isLast_iff f n j hj).1 hl
        rcases Nat.lt_or_gt_of_ne e with hlt | hgt
        · exact this i hlt h1 (by rw [h2, hx])
        · exact h3 j hgt hj hx
      simp [hL', hx]

theorem lasts_miss (f : Nat → α) (n : Nat) (p : Nat → Bool) (L L' : α → Bool) (x : α) (i : Nat) (hi : lastOf f n x = some i) (hL' : ∀ y, L' y = (L y && !(y == x))) (hp : p i = false) :
    (lasts f n fun j => p j && !L' (f j)) = lasts f n fun j => p j && !L (f j) := by
  obtain ⟨h1, h2, h3⟩ := lastOf_some hi
  unfold lasts
  apply List.filter_congr
  intro j hj
  have hj' := List.mem_range.1 hj
  cases hl : isLast f n j with
  | false => rfl
  | true =>
    by_cases e : j = i
    · subst e; simp [hp]
    · have hx : (f j == x) = false := by
        rw [beq_eq_false_iff_ne]
        intro hx
        have := (isLast_iff f n j hj').1 hl
        rcases Nat.lt_or_gt_of_ne e with hlt | hgt
        · exact this i hlt h1 (by rw [h2, hx])
        · exact h3 j hgt hj' hx
      simp [hL', hx]

theorem lasts_le (f : Nat → α) (n : Nat) (p : Nat → Bool) : (lasts f n p).length ≤ n := by
  unfold lasts
  exact Nat.le_trans (List.length_filter_le ..) (by simp)
end

/-- The variables met so far. -/
def Met (K : Nat → ByteArray) (S : Nat → Int) (V : Nat → ByteArray) (n : Nat) (s : Int) (left : Lit → Bool) (ss : List (List UInt8)) : Prop :=
  ss.Perm ((lasts (kb K) n fun j => (S j == s) && !left (.string (kb K j))).map (kb V))

theorem Met.le {K : Nat → ByteArray} {S : Nat → Int} {V : Nat → ByteArray} {n : Nat} {s : Int} {left : Lit → Bool} {ss : List (List UInt8)} (h : Met K S V n s left ss) : ss.length ≤ n := by
  rw [h.length_eq, List.length_map]
  exact lasts_le _ _ _

/-- An entry has come: it is the last write of its key. -/
theorem Tells.entry {K : Nat → ByteArray} {S : Nat → Int} {V : Nat → ByteArray} {n : Nat} {D : DataW Unit} (h : Tells K S V n D) {x : List UInt8} {c : Int × ByteArray} (hat : ∀ z, D.atKey (.string x) z = oDat c) :
    ∃ i, lastOf (kb K) n x = some i ∧ c = (S i, V i) := by
  cases hl : lastOf (kb K) n x with
  | none =>
    have h1 := h.2 x (.map [])
    rw [hat, hl] at h1
    cases h1
  | some i =>
    have h1 := h.2 x (.map [])
    rw [hat, hl] at h1
    exact ⟨i, rfl, oDat_inj h1⟩

theorem Met.start {K : Nat → ByteArray} {S : Nat → Int} {V : Nat → ByteArray} {n : Nat} {D : DataW Unit} (h : Tells K S V n D) (s : Int) : Met K S V n s (Maps.has D) [] := by
  unfold Met
  have : (lasts (kb K) n fun j => (S j == s) && !Maps.has D (.string (kb K j))) = [] := by
    unfold lasts
    rw [List.filter_eq_nil_iff]
    intro j hj hc
    have hj' := List.mem_range.1 hj
    simp only [Bool.and_eq_true, Bool.not_eq_true'] at hc
    have h1 : ∀ z, D.atKey (.string (kb K j)) z = oDat (S j, V j) := fun z => by
      rw [h.2, lastOf_mk hj' rfl ((isLast_iff _ _ _ hj').1 hc.1)]
    rw [has_true_of_atKey h1] at hc
    cases hc.2.2
  rw [this]
  exact List.Perm.refl _

theorem Met.step_hit {K : Nat → ByteArray} {S : Nat → Int} {V : Nat → ByteArray} {n : Nat} {s : Int} {left : Lit → Bool} {ss : List (List UInt8)} {D : DataW Unit} (hD : Tells K S V n D) (h : Met K S V n s left ss) {x : List UInt8} {c : Int × ByteArray}
    (hl : left (.string x) = true) (hat : ∀ z, D.atKey (.string x) z = oDat c) (hs : c.1 = s) : Met K S V n s (fun z => left z && !z.sameKey (.string x)) (ss ++ [c.2.data.toList]) := by
  obtain ⟨i, hi, rfl⟩ := hD.entry hat
  have := lasts_hit (kb K) n (fun j => S j == s) (fun y => left (.string y)) (fun y => left (.string y) && !(Lit.string y).sameKey (.string x)) x i hi hl (fun y => rfl) (by simpa using hs)
  unfold Met
  refine (h.append_right _).trans ?_
  have h2 := (this.map (kb V)).symm
  rw [List.map_append] at h2
  exact h2

theorem Met.step_miss {K : Nat → ByteArray} {S : Nat → Int} {V : Nat → ByteArray} {n : Nat} {s : Int} {left : Lit → Bool} {ss : List (List UInt8)} {D : DataW Unit} (hD : Tells K S V n D) (h : Met K S V n s left ss) {x : List UInt8} {c : Int × ByteArray}
    (hat : ∀ z, D.atKey (.string x) z = oDat c) (hs : ¬ c.1 = s) : Met K S V n s (fun z => left z && !z.sameKey (.string x)) ss := by
  obtain ⟨i, hi, rfl⟩ := hD.entry hat
  have := lasts_miss (kb K) n (fun j => S j == s) (fun y => left (.string y)) (fun y => left (.string y) && !(Lit.string y).sameKey (.string x)) x i hi (fun y => rfl) (by simpa using hs)
  unfold Met
  rw [this]
  exact h

theorem Met.done {K : Nat → ByteArray} {S : Nat → Int} {V : Nat → ByteArray} {n : Nat} {s : Int} {left : Lit → Bool} {ss : List (List UInt8)} (h : Met K S V n s left ss) (hl : ∀ kl, left kl = false) :
    ss.Perm ((lasts (kb K) n fun j => S j == s).map (kb V)) := by
  unfold Met at h
  simpa [hl] using h

end Go.Proofs.Qxb6601034a
