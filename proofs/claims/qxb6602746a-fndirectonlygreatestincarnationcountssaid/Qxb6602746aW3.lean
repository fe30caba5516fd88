/-
  THE WALKS of seat b6602746a: the copy of the script, and the bound on its length.
-/
import Derived.Test.Qxb6602746aW2
namespace Go.Proofs.Qxb6602746a
open Go.RowKit
set_option linter.unusedVariables false

theorem Try.info35 : (Try.prog.info? 35).map (fun i => (i.zero, i.size, i.bytes)) = some (some (.agg #[.int .u64 0, .int .u64 0]), 2, 16) := by kernel_rfl

/-- The slice at a, of n pairs, holds (I 0, S 0), (I 1, S 1) ..: nothing is said of one without elements. -/
def Pairs (w : World) (a : Option Addr) (n : Nat) (I S : Nat → Int) : Prop :=
  0 < n → ∃ b o, a = some ⟨b, o, none⟩ ∧ ∀ i, i < n → w.cell? ⟨b, o + i * 2, none⟩ = some (.int .u64 (I i)) ∧ w.cell? ⟨b, o + i * 2 + 1, none⟩ = some (.int .u64 (S i))

theorem Pairs.later {w w' : World} {a : Option Addr} {n : Nat} {I S : Nat → Int} (h : Pairs w a n I S) (hb : Below w.heap.size w w') : Pairs w' a n I S := by
  intro hn
  obtain ⟨b, o, e, hc⟩ := h hn
  exact ⟨b, o, e, fun i hi => ⟨cell_later hb (hc i hi).1, cell_later hb (hc i hi).2⟩⟩

def Cloned (w w' : World) (n : Nat) (I S : Nat → Int) (e : Ending) : Prop := ∃ a c, e = .returned (.slice a n c) ∧ Pairs w' a n I S ∧ Below w.heap.size w w'

/-- The new row while it is filled. -/
def Dst (w : World) (g n k : Nat) (I S : Nat → Int) : Prop :=
  ∃ f : Nat → Value, w.rowIs g 35 (n * 2) f ∧ ∀ i, i < k → f (i * 2) = .int .u64 (I i) ∧ f (i * 2 + 1) = .int .u64 (S i)

theorem Dst.step {w : World} {g n k : Nat} {I S : Nat → Int} (h : Dst w g n k I S) :
    Dst ((w.setCell ⟨g, k * 2, none⟩ (.int .u64 (I k))).setCell ⟨g, k * 2 + 1, none⟩ (.int .u64 (S k))) g n (k + 1) I S := by
  obtain ⟨f, hf, hk⟩ := h
  refine ⟨_, (hf.set (k * 2) _).set (k * 2 + 1) _, fun i hi => ?_⟩
  by_cases e : i = k
  · subst e
    simp
  · have := hk i (by omega)
    simp [show ¬ i * 2 = k * 2 by omega, show ¬ i * 2 = k * 2 + 1 by omega, show ¬ i * 2 + 1 = k * 2 by omega, this]

theorem Dst.cell {w : World} {g n k : Nat} {I S : Nat → Int} (h : Dst w g n k I S) (j : Nat) (hj : j < n * 2) : ∃ v, w.cell? ⟨g, j, none⟩ = some v := by
  obtain ⟨f, hf, hk⟩ := h
  exact ⟨_, hf.cell hj⟩
theorem Dst.frozen {w : World} {g n k : Nat} {I S : Nat → Int} (h : Dst w g n k I S) (j : Nat) : w.frozen? ⟨g, j, none⟩ = false := by
  obtain ⟨f, hf, hk⟩ := h
  exact hf.frozen j
theorem Dst.pairs {w : World} {g n : Nat} {I S : Nat → Int} (h : Dst w g n n I S) : Pairs w (some ⟨g, 0, none⟩) n I S := by
  obtain ⟨f, hf, hk⟩ := h
  intro _
  refine ⟨g, 0, rfl, fun i hi => ⟨?_, ?_⟩⟩
  · rw [Nat.zero_add, ← (hk i hi).1]; exact hf.cell (by omega)
  · rw [Nat.zero_add, ← (hk i hi).2]; exact hf.cell (by omega)

theorem run_make35 (n : Nat) (hn : n ≤ 65536) (w : World) : ∃ c : Array Value, c.size = n * 2 ∧
    (Instr.makeSlice 31 (.int .i64 (n : Int)) (.int .i64 (n : Int))).run Try.prog w = .ok (.slice (some ⟨w.heap.size, 0, none⟩) n n) (w.alloc (.cells c 35)) := by
  obtain ⟨i, hi, hzz⟩ := Option.map_eq_some_iff.1 Try.info35
  simp only [Prod.mk.injEq] at hzz
  obtain ⟨hz, hs, hb⟩ := hzz
  have hr := run_make (P := Try.prog) w 31 35 i _ Try.underlying31 hi hz .i64 .i64 n n (by omega) (Int.le_refl _) (by rw [hb]; omega) (by omega)
  simp only [Int.toNat_natCast, hs] at hr
  exact ⟨_, size_madeCells _ _, hr⟩

set_option maxHeartbeats 400000 in
theorem clone_any (a : Option Addr) (n c : Nat) (I S : Nat → Int) (w : World) (hn : n ≤ 65536) (hK : Hid (Pairs w a n I S)) :
    Calls Try.prog 14 #[.slice a n c] w fun e w' => Cloned w w' n I S e := by
  have q31 : ∀ (w : World) (a : Option Addr) (n c n' c' : Nat), (binOp .eql 31 (.slice a n c) (.slice none n' c')).run Try.prog w = .ok (.bool a.isNone) w := fun w a n c n' c' => Lib.run_eql_slice_nil w _ _ a n c n' c' Try.underlying31
  obtain ⟨cs, hcs, hmk⟩ := run_make35 n hn w
  cases a with
  | none =>
    by_cases h0 : 0 < n
    · obtain ⟨_, _, e, _⟩ := hK.out h0
      cases e
    · obtain rfl : n = 0 := by omega
      go_enter Try.func14, Try.ntmps14
      go_wp2
      go_ret
      exact ⟨_, _, rfl, fun h => by omega, Below.refl _ _⟩
  | some ad =>
    go_enter Try.func14, Try.ntmps14
    go_wp2
    go_loopw [4] (fun i wr => ∃ k : Nat, k ≤ n ∧ i = .int .i64 k ∧ Dst wr w.heap.size n k I S ∧ Below w.heap.size w wr) (fun i _ => n - (intOf i).toNat)
    case atStart =>
      refine ⟨0, Nat.zero_le _, rfl, ⟨fun j => cs.getD j (.int .u64 0), hcs ▸ World.rowIs_alloc w cs 35 _ ?_, fun i hi => absurd hi (Nat.not_lt_zero _)⟩, (Below.refl _ _).alloc (Nat.le_refl _) _⟩
      intro i hi
      simp [Array.getD, hi]
    case round =>
      obtain ⟨k, hk, rfl, hrow, hbel⟩ := hrel
      by_cases hlt : k < n
      · obtain ⟨b0, o0, e, hc⟩ := hK.out (by omega)
        cases e
        have hc0 : wr.cell? ⟨b0, o0 + k * 2, none⟩ = some (.int .u64 (I k)) := cell_later hbel (hc k hlt).1
        have hc1 : wr.cell? ⟨b0, o0 + k * 2 + 1, none⟩ = some (.int .u64 (S k)) := cell_later hbel (hc k hlt).2
        have hf0 := hrow.frozen (k * 2)
        have hf1 := hrow.frozen (k * 2 + 1)
        obtain ⟨v0, hv0⟩ := hrow.cell (k * 2) (by omega)
        obtain ⟨v1, hv1⟩ := hrow.cell (k * 2 + 1) (by omega)
        have HR := hrow.step
        have HB := (hbel.setCell (p := ⟨w.heap.size, k * 2, none⟩) (Nat.le_refl _) (.int .u64 (I k))).setCell (p := ⟨w.heap.size, k * 2 + 1, none⟩) (Nat.le_refl _) (.int .u64 (S k))
        clear hrow hbel hc
        go_wp2
        go_roundw
        case rel => exact ⟨k + 1, by omega, by go_num, HR, HB⟩
        case measure => simp [intOf]; omega
      · go_wp2
        go_ret
        obtain rfl : k = n := by omega
        exact ⟨_, _, rfl, hrow.pairs, hbel⟩

theorem bytes_ok (i l r : Int) (a : Option Addr) (n c : Nat) (w : World) (h : n ≤ 1048576) :
    Calls Try.prog 18 #[.int .u64 i, .int .u64 l, .int .u64 r, .slice a n c] w fun e w' => e = .returned (.bool true) ∧ w' = w := by
  go_enter Try.func18, Try.ntmps18
  go_wp2
  go_ret
  exact ⟨rfl, rfl⟩

theorem bytes_no (i l r : Int) (a : Option Addr) (n c : Nat) (w : World) (hn : n ≤ 9223372036854775807) (h : 1048576 < n) :
    Calls Try.prog 18 #[.int .u64 i, .int .u64 l, .int .u64 r, .slice a n c] w fun e w' => e = .returned (.bool false) ∧ w' = w := by
  go_enter Try.func18, Try.ntmps18
  go_wp2
  go_ret
  exact ⟨rfl, rfl⟩

theorem law8_out (i l r : Int) (a : Option Addr) (n c : Nat) (w : World) (hn : n ≤ 9223372036854775807) (h : 65536 < n) :
    Calls Try.prog 8 #[.int .u64 i, .int .u64 l, .int .u64 r, .slice a n c] w fun e w' => e = .returned (.bool true) ∧ Below w.heap.size w w' := by
  by_cases hb : n ≤ 1048576
  · go_enter Try.func8, Try.ntmps8
    go_wp2_with fail
    refine (bytes_ok i l r a n c w hb).mono ?_
    rintro _ _ ⟨rfl, rfl⟩
    simp only []
    go_wp2
    go_ret
    exact ⟨rfl, Below.refl _ _⟩
  · go_enter Try.func8, Try.ntmps8
    go_wp2_with fail
    refine (bytes_no i l r a n c w hn (by omega)).mono ?_
    rintro _ _ ⟨rfl, rfl⟩
    simp only []
    go_wp2
    go_ret
    exact ⟨rfl, Below.refl _ _⟩
end Go.Proofs.Qxb6602746a
