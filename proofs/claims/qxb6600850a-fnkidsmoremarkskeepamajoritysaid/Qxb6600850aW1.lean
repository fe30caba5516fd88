/-
  THE WALKS of seat b6600850a, first part: children, toward, the copy of a slice of bools, the bound on lengths.
-/
import Derived.Test.Qxb6600850aProg
import Derived.Test.Qxb6600850aPlain
import Derived.WalkKit
import Derived.WalkSpells
import Derived.WalkLawsBesides
import Derived.RegionTactic
import Derived.ChangeAlike
import Derived.Deep.QuietTactic
import Derived.BigQuiet
import Derived.Deep.OwnRows
namespace Go.Proofs.Qxb6600850a
open Go.RowKit Plain
set_option linter.unusedVariables false

theorem ret_pair {k : IntKind} {a b c d : Int} (h : a = b) (h' : c = d) : Ending.returned (.tuple #[.int k a, .int k c]) = .returned (.tuple #[.int k b, .int k d]) := by rw [h, h']

/-! ### children -/
set_option maxHeartbeats 400000 in
theorem children_no (d s v : Int) (w : World) (hd : 1 ≤ d) (hd2 : d ≤ 9223372036854775807) (hs : 2 ≤ s) (hs2 : s ≤ 65536) (hv : 0 ≤ v) (hv2 : v < s) (h : (s - 2) / d < v) :
    Calls Try.prog 30 #[.agg #[.int .i64 d, .int .i64 s], .int .i64 v] w fun e w' => e = .returned (.tuple #[.int .i64 s, .int .i64 s]) ∧ Below w.heap.size w w' := by
  go_enter Try.func30, Try.ntmps30
  go_wp2
  go_quiet (fail)
  go_wp2
  go_ret2
  exact ⟨rfl, below_drewN ((Below.refl _ _).alloc (Nat.le_refl _) _) _⟩

set_option maxHeartbeats 400000 in
theorem children_yes (d s v : Int) (w : World) (hd : 1 ≤ d) (hd2 : d ≤ 9223372036854775807) (hs : 2 ≤ s) (hs2 : s ≤ 65536) (hv : 0 ≤ v) (hv2 : v < s) (h : v ≤ (s - 2) / d) (hm0 : 0 ≤ d * v) (hm : d * v ≤ s - 1) :
    Calls Try.prog 30 #[.agg #[.int .i64 d, .int .i64 s], .int .i64 v] w fun e w' => e = .returned (.tuple #[.int .i64 (d * v + 1), .int .i64 (d * v + 1 + min d (s - (d * v + 1)))]) ∧ Below w.heap.size w w' := by
  go_enter Try.func30, Try.ntmps30
  go_wp2
  go_quiet (fail)
  go_wp2
  all_goals
    go_ret2
    exact ⟨ret_pair rfl (by omega), below_drewN ((Below.refl _ _).alloc (Nat.le_refl _) _) _⟩

set_option maxHeartbeats 400000 in
theorem children_lone1 (w : World) :
    Calls Try.prog 30 #[.agg #[.int .i64 1, .int .i64 1], .int .i64 0] w fun e w' => e = .returned (.tuple #[.int .i64 1, .int .i64 1]) ∧ Below w.heap.size w w' := by
  go_enter Try.func30, Try.ntmps30
  go_wp2
  go_quiet (fail)
  go_wp2
  go_ret2
  exact ⟨rfl, below_drewN ((Below.refl _ _).alloc (Nat.le_refl _) _) _⟩

set_option maxHeartbeats 400000 in
theorem children_lone2 (d : Int) (w : World) (hd : 2 ≤ d) (hd2 : d ≤ 9223372036854775807) (ht : (-1 : Int).tdiv d = 0) :
    Calls Try.prog 30 #[.agg #[.int .i64 d, .int .i64 1], .int .i64 0] w fun e w' => e = .returned (.tuple #[.int .i64 1, .int .i64 1]) ∧ Below w.heap.size w w' := by
  go_enter Try.func30, Try.ntmps30
  go_wp2
  go_quiet (fail)
  go_wp2
  all_goals
    go_ret2
    exact ⟨ret_pair rfl (by omega), below_drewN ((Below.refl _ _).alloc (Nat.le_refl _) _) _⟩

/-- children, whatever the node of a tree. -/
theorem children_any (d s v : Int) (w : World) (hd : 1 ≤ d) (hd2 : d ≤ 9223372036854775807) (hs : 1 ≤ s) (hs2 : s ≤ 65536) (hv : 0 ≤ v) (hv2 : v < s) :
    Calls Try.prog 30 #[.agg #[.int .i64 d, .int .i64 s], .int .i64 v] w fun e w' => e = .returned (.tuple #[.int .i64 (kFirst d s v), .int .i64 (kEnd d s v)]) ∧ Below w.heap.size w w' := by
  rcases tdiv_cases d s hd hs with ⟨rfl, e⟩ | ⟨h2, e⟩
  · obtain rfl : v = 0 := by omega
    by_cases h1 : d = 1
    · subst h1
      have e1 : kFirst 1 1 0 = 1 := by decide
      have e2 : kEnd 1 1 0 = 1 := by decide
      rw [e1, e2]; exact children_lone1 w
    · have ht : (-1 : Int).tdiv d = 0 := by
        have h0 : (1 : Int).tdiv d = 0 := Int.tdiv_eq_zero_of_lt (by omega) (by omega)
        rw [Int.neg_tdiv, h0]; rfl
      have hn : ¬ (1 - 2 : Int).tdiv d < 0 := by
        have : (1 - 2 : Int) = -1 := by decide
        rw [this, ht]; omega
      have e1 : kFirst d 1 0 = 1 := by unfold kFirst; rw [if_neg hn]; omega
      have e2 : kEnd d 1 0 = 1 := by unfold kEnd; rw [if_neg hn]; omega
      rw [e1, e2]; exact children_lone2 d w (by omega) hd2 ht
  · by_cases h : (s - 2) / d < v
    · have e1 : kFirst d s v = s := by unfold kFirst; rw [e, if_pos h]
      have e2 : kEnd d s v = s := by unfold kEnd; rw [e, if_pos h]
      rw [e1, e2]; exact children_no d s v w hd hd2 h2 hs2 hv hv2 h
    · have e1 : kFirst d s v = d * v + 1 := by unfold kFirst; rw [e, if_neg h]
      have e2 : kEnd d s v = d * v + 1 + min d (s - (d * v + 1)) := by unfold kEnd; rw [e, if_neg h]
      have hm := mul_le d s v hd hs hv (by rw [e]; exact h)
      rw [e1, e2]; exact children_yes d s v w hd hd2 h2 hs2 hv hv2 (by omega) hm.1 hm.2

end Go.Proofs.Qxb6600850a
