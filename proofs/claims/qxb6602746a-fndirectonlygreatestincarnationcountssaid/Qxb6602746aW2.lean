/-
  THE WALK of 'FnDirectTakeDuplicateChangesNothing'.
-/
import Derived.Test.Qxb6602746aW1
namespace Go.Proofs.Qxb6602746a
open Go.RowKit
set_option linter.unusedVariables false

theorem nx_ne (s : Int) (h : (Lit.int .u64 s).wf = true) : s ≠ nx s := by
  intro e
  simp [nx, IntKind.wrap, Lit.wf, IntKind.bits, IntKind.signed] at *
  omega

/-- The same message again changes nothing. -/
theorem tk_again (i l r a s : Int) (h : (Lit.int .u64 s).wf = true) : tk (tk i l r a s).1 (tk i l r a s).2.1 (tk i l r a s).2.2 a s = tk i l r a s := by
  have hn := nx_ne s h
  by_cases c1 : a < i
  · have e : tk i l r a s = (i, l, r) := if_pos c1
    rw [e]; exact e
  · by_cases c2 : a = i ∧ s = nx l
    · have e : tk i l r a s = (i, s, nx r) := by unfold tk; rw [if_neg c1, if_pos c2]
      rw [e]
      show tk i s (nx r) a s = _
      unfold tk
      rw [if_neg c1, if_neg (fun o => hn o.2), if_neg (by omega)]
    · by_cases c3 : i < a ∨ l < s
      · have e : tk i l r a s = (a, s, 1) := by unfold tk; rw [if_neg c1, if_neg c2, if_pos c3]
        rw [e]
        show tk a s 1 a s = _
        unfold tk
        rw [if_neg (Int.lt_irrefl _), if_neg (fun o => hn o.2), if_neg (by omega)]
      · have e : tk i l r a s = (i, l, r) := by unfold tk; rw [if_neg c1, if_neg c2, if_neg c3]
        rw [e]; exact e

theorem Rec.drewN {w : World} {g : Nat} {i l r : Int} (h : Rec w g i l r) (n : Nat) : Rec (w.drewN n) g i l r := h

set_option maxHeartbeats 1000000 in
theorem law7 (i l r a s : Int) (hs : (Lit.int .u64 s).wf = true) (w : World) :
    Calls Try.prog 7 #[.int .u64 i, .int .u64 l, .int .u64 r, .int .u64 a, .int .u64 s] w fun e w' => e = .returned (.bool true) ∧ Below w.heap.size w w' := by
  have ha := tk_again i l r a s hs
  revert ha
  obtain ⟨⟨i1, l1, r1⟩, hx⟩ : ∃ x, tk i l r a s = x := ⟨_, rfl⟩
  rw [hx]
  intro ha
  go_enter Try.func7, Try.ntmps7
  go_wp2_with fail
  refine (make_any i l r w).mono ?_
  rintro _ w1 ⟨rfl, h1, s1, b1⟩
  simp only []
  go_wp2_with fail
  refine (zzTake_any w.heap.size i l r a s w1 h1).mono ?_
  rintro _ w2 ⟨rfl, h2, o2⟩
  rw [hx] at h2
  simp only [] at h2 ⊢
  go_wp2_with fail
  refine (state_any w.heap.size i1 l1 r1 w2 h2).mono ?_
  rintro _ w3 ⟨rfl, n3, rfl⟩
  simp only []
  go_wp2_with fail
  refine (zzTake_any w.heap.size i1 l1 r1 a s (w2.drewN n3) (h2.drewN n3)).mono ?_
  rintro _ w4 ⟨rfl, h4, o4⟩
  rw [ha] at h4
  simp only [] at h4 ⊢
  go_wp2_with fail
  refine (state_any w.heap.size i1 l1 r1 w4 h4).mono ?_
  rintro _ w5 ⟨rfl, n5, rfl⟩
  simp only []
  go_wp2
  go_ret
  exact ⟨rfl, below_drewN ((b1.trans (o2.below (Nat.le_refl _))).trans ((below_drewN (Below.refl _ _) n3).trans (o4.below (Nat.le_refl _)))) _⟩
end Go.Proofs.Qxb6602746a
