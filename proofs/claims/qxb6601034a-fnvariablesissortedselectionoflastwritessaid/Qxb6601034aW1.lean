/-
  THE WALKS of seat b6601034a, first part: what is known of a slice that came in; the bound on lengths, the footprint, the copies.
-/
import Derived.Test.Qxb6601034aProg
import Derived.Test.Qxb6601034aPlain
import Derived.WalkKit
import Derived.WalkSpells
import Derived.WalkLawsBesides
import Derived.RegionTactic
import Derived.ChangeAlike
import Derived.Deep.QuietTactic
import Derived.BigQuiet
import Derived.Deep.OwnRows
import Derived.Lib.SliceRun
import Derived.Sort.EncStr
namespace Go.Proofs.Qxb6601034a
open Go.RowKit Plain
set_option linter.unusedVariables false

theorem hid {p : Prop} (h : p) : Hid p := h

theorem Try.info3 : (Try.prog.info? 3).map (fun i => (i.zero, i.size, i.bytes)) = some (some (.int .i64 0), 1, 8) := by kernel_rfl
theorem Try.info4 : (Try.prog.info? 4).map (fun i => (i.zero, i.size, i.bytes)) = some (some (.bool false), 1, 1) := by kernel_rfl
theorem Try.info9 : (Try.prog.info? 9).map (fun i => (i.zero, i.size, i.bytes)) = some (some (.string ByteArray.empty), 1, 16) := by kernel_rfl

/-- The slice at a, of n elements, holds the values f 0, f 1 ..: nothing is said of one without elements. -/
def Row (w : World) (a : Option Addr) (n : Nat) (f : Nat → Value) : Prop :=
  0 < n → ∃ b o, a = some ⟨b, o, none⟩ ∧ ∀ i, i < n → w.cell? ⟨b, o + i, none⟩ = some (f i)

theorem Row.later {w w' : World} {a : Option Addr} {n : Nat} {f : Nat → Value} (h : Row w a n f) (hb : Below w.heap.size w w') : Row w' a n f := by
  intro hn
  obtain ⟨b, o, e, hc⟩ := h hn
  exact ⟨b, o, e, fun i hi => cell_later hb (hc i hi)⟩

theorem Row.of_rowIs {w : World} {g : Nat} {t : TypeId} {n : Nat} {f : Nat → Value} (h : w.rowIs g t n f) : Row w (some ⟨g, 0, none⟩) n f :=
  fun _ => ⟨g, 0, rfl, fun i hi => by rw [Nat.zero_add]; exact h.cell hi⟩

/-- It answers a bool, whichever. -/
def AnyBool (e : Ending) : Prop := ∃ r, e = .returned (.bool r)
theorem AnyBool.of (r : Bool) : AnyBool (.returned (.bool r)) := ⟨r, rfl⟩
/-- It answers an int, whichever. -/
def AnyInt (e : Ending) : Prop := ∃ r, e = .returned (.int .i64 r)
theorem AnyInt.of (r : Int) : AnyInt (.returned (.int .i64 r)) := ⟨r, rfl⟩

/-! ### the bound on lengths: it answers, and turns nothing -/
set_option maxHeartbeats 1000000 in
theorem bytes4_any (a b c : Option Addr) (n n' m m' l l' : Nat) (K V : Nat → ByteArray) (w : World) (hn : n ≤ 9223372036854775807) (hm : m ≤ 9223372036854775807) (hl : l ≤ 9223372036854775807)
    (hK : Hid (Row w a n (fun i => .string (K i)))) (hV : Hid (Row w c l (fun i => .string (V i)))) :
    Calls Try.prog 14 #[.slice a n n', .slice b m m', .slice c l l'] w fun e w' => AnyBool e ∧ w' = w := by
  go_enter Try.func14, Try.ntmps14
  go_wp2
  all_goals try (go_ret; exact ⟨AnyBool.of _, rfl⟩)
  go_loop [7, 8] (fun t i => (∃ k : Nat, k ≤ n ∧ i = .int .i64 k) ∧ ∃ z : Int, t = .int .i64 z) (fun _ i => n - (intOf i).toNat)
  case atStart => exact ⟨⟨0, Nat.zero_le _, rfl⟩, _, rfl⟩
  case round =>
    obtain ⟨⟨k, hk, rfl⟩, z, rfl⟩ := hrel
    by_cases hlt : k < n
    · obtain ⟨b0, o0, rfl, hc⟩ := hK.out (by omega)
      have hcell := hc k hlt
      clear hc
      go_wp2
      all_goals try (go_ret; exact ⟨AnyBool.of _, rfl⟩)
      go_round
      case rel => exact ⟨⟨k + 1, by omega, by go_num⟩, _, rfl⟩
      case measure => simp [intOf]; omega
    · go_wp2
      all_goals try (go_ret; exact ⟨AnyBool.of _, rfl⟩)
      go_loop [7, 9] (fun t i => (∃ k : Nat, k ≤ l ∧ i = .int .i64 k) ∧ ∃ z : Int, t = .int .i64 z) (fun _ i => l - (intOf i).toNat)
      case atStart => exact ⟨⟨0, Nat.zero_le _, rfl⟩, _, rfl⟩
      case round =>
        obtain ⟨⟨k2, hk2, rfl⟩, z2, rfl⟩ := hrel
        by_cases hlt2 : k2 < l
        · obtain ⟨b0, o0, rfl, hc⟩ := hV.out (by omega)
          have hcell := hc k2 hlt2
          clear hc
          go_wp2
          all_goals try (go_ret; exact ⟨AnyBool.of _, rfl⟩)
          go_round
          case rel => exact ⟨⟨k2 + 1, by omega, by go_num⟩, _, rfl⟩
          case measure => simp [intOf]; omega
        · go_wp2
          go_ret
          exact ⟨AnyBool.of _, rfl⟩

set_option maxHeartbeats 1000000 in
theorem foot_any (a b c : Option Addr) (n n' m m' l l' : Nat) (K V : Nat → ByteArray) (w : World) (hn : n ≤ 4096) (hm : m ≤ 4096) (hl : l ≤ 4096)
    (hK : Hid (Row w a n (fun i => .string (K i)))) (hV : Hid (Row w c l (fun i => .string (V i)))) :
    Calls Try.prog 8 #[.slice a n n', .slice b m m', .slice c l l'] w fun e w' => AnyInt e ∧ w' = w := by
  go_enter Try.func8, Try.ntmps8
  go_wp2
  go_loop [7, 8] (fun t i => (∃ k : Nat, k ≤ n ∧ i = .int .i64 k) ∧ ∃ z : Int, t = .int .i64 z) (fun _ i => n - (intOf i).toNat)
  case atStart => exact ⟨⟨0, Nat.zero_le _, rfl⟩, _, rfl⟩
  case round =>
    obtain ⟨⟨k, hk, rfl⟩, z, rfl⟩ := hrel
    by_cases hlt : k < n
    · obtain ⟨b0, o0, rfl, hc⟩ := hK.out (by omega)
      have hcell := hc k hlt
      clear hc
      go_wp2
      go_round
      case rel => exact ⟨⟨k + 1, by omega, by go_num⟩, _, rfl⟩
      case measure => simp [intOf]; omega
    · go_wp2
      go_loop [7, 9] (fun t i => (∃ k : Nat, k ≤ l ∧ i = .int .i64 k) ∧ ∃ z : Int, t = .int .i64 z) (fun _ i => l - (intOf i).toNat)
      case atStart => exact ⟨⟨0, Nat.zero_le _, rfl⟩, _, rfl⟩
      case round =>
        obtain ⟨⟨k2, hk2, rfl⟩, z2, rfl⟩ := hrel
        by_cases hlt2 : k2 < l
        · obtain ⟨b0, o0, rfl, hc⟩ := hV.out (by omega)
          have hcell := hc k2 hlt2
          clear hc
          go_wp2
          go_round
          case rel => exact ⟨⟨k2 + 1, by omega, by go_num⟩, _, rfl⟩
          case measure => simp [intOf]; omega
        · go_wp2
          go_ret
          exact ⟨AnyInt.of _, rfl⟩

/-! ### the copies -/
/-- What a copy hands back: a slice of the same length; where there is an element it lies in memory of its own. -/
def Copied (w w' : World) (n : Nat) (f : Nat → Value) (e : Ending) : Prop := ∃ a c, e = .returned (.slice a n c) ∧ Row w' a n f ∧ Below w.heap.size w w'

set_option maxHeartbeats 400000 in
theorem copyS_any (a : Option Addr) (n c : Nat) (K : Nat → ByteArray) (w : World) (hn : n ≤ 4096) (hK : Hid (Row w a n (fun i => .string (K i)))) :
    Calls Try.prog 9 #[.slice a n c] w fun e w' => Copied w w' n (fun i => .string (K i)) e := by
  have q22 : ∀ (w : World) (a : Option Addr) (n c n' c' : Nat), (binOp .eql 22 (.slice a n c) (.slice none n' c')).run Try.prog w = .ok (.bool a.isNone) w := fun w a n c n' c' => Lib.run_eql_slice_nil w _ _ a n c n' c' Try.underlying22
  have hmk := run_make_row' (P := Try.prog) 22 9 (.string ByteArray.empty) 16 Try.underlying22 Try.info9 rfl .i64 .i64 n (by omega) (by omega)
  cases a with
  | none =>
    by_cases h0 : 0 < n
    · obtain ⟨_, _, e, _⟩ := hK.out h0
      cases e
    · obtain rfl : n = 0 := by omega
      go_enter Try.func9, Try.ntmps9
      go_wp2
      go_ret
      exact ⟨_, _, rfl, fun h => by omega, Below.refl _ _⟩
  | some ad =>
    go_enter Try.func9, Try.ntmps9
    go_wp2
    go_loopw [4] (fun i wr => ∃ k : Nat, k ≤ n ∧ i = .int .i64 k ∧ wr.rowIs w.heap.size 9 n (fun j => if j < k then .string (K j) else .string ByteArray.empty) ∧ Below w.heap.size w wr) (fun i _ => n - (intOf i).toNat)
    case atStart => exact ⟨0, Nat.zero_le _, rfl, (World.rowIs_made w (.string ByteArray.empty) n 9).congr (by simp), (Below.refl _ _).alloc (Nat.le_refl _) _⟩
    case round =>
      obtain ⟨k, hk, rfl, hrow, hbel⟩ := hrel
      by_cases hlt : k < n
      · obtain ⟨b0, o0, e, hc⟩ := hK.out (by omega)
        cases e
        have hcell : wr.cell? ⟨b0, o0 + k, none⟩ = some (.string (K k)) := cell_later hbel (hc k hlt)
        have hfr := hrow.frozen k
        have hcl := hrow.cell hlt
        have HR := hrow.set k (.string (K k))
        have HB := hbel.setCell (p := ⟨w.heap.size, k, none⟩) (Nat.le_refl _) (.string (K k))
        clear hrow hbel hc
        go_wp2
        go_roundw
        case rel =>
          refine ⟨k + 1, by omega, by go_num, HR.congr ?_, HB⟩
          intro j hj
          by_cases e : j = k
          · subst e; simp
          · simp only [if_neg e]
            by_cases e2 : j < k
            · rw [if_pos e2, if_pos (by omega)]
            · rw [if_neg e2, if_neg (by omega)]
        case measure => simp [intOf]; omega
      · go_wp2
        go_ret
        obtain rfl : k = n := by omega
        exact ⟨_, _, rfl, Row.of_rowIs (hrow.congr (by intro j hj; simp [hj])), hbel⟩

set_option maxHeartbeats 400000 in
theorem copyI_any (a : Option Addr) (n c : Nat) (S : Nat → Int) (w : World) (hn : n ≤ 4096) (hK : Hid (Row w a n (fun i => .int .i64 (S i)))) :
    Calls Try.prog 10 #[.slice a n c] w fun e w' => Copied w w' n (fun i => .int .i64 (S i)) e := by
  have q23 : ∀ (w : World) (a : Option Addr) (n c n' c' : Nat), (binOp .eql 23 (.slice a n c) (.slice none n' c')).run Try.prog w = .ok (.bool a.isNone) w := fun w a n c n' c' => Lib.run_eql_slice_nil w _ _ a n c n' c' Try.underlying23
  have hmk := run_make_row' (P := Try.prog) 23 3 (.int .i64 0) 8 Try.underlying23 Try.info3 rfl .i64 .i64 n (by omega) (by omega)
  cases a with
  | none =>
    by_cases h0 : 0 < n
    · obtain ⟨_, _, e, _⟩ := hK.out h0
      cases e
    · obtain rfl : n = 0 := by omega
      go_enter Try.func10, Try.ntmps10
      go_wp2
      go_ret
      exact ⟨_, _, rfl, fun h => by omega, Below.refl _ _⟩
  | some ad =>
    go_enter Try.func10, Try.ntmps10
    go_wp2
    go_loopw [4] (fun i wr => ∃ k : Nat, k ≤ n ∧ i = .int .i64 k ∧ wr.rowIs w.heap.size 3 n (fun j => if j < k then .int .i64 (S j) else .int .i64 0) ∧ Below w.heap.size w wr) (fun i _ => n - (intOf i).toNat)
    case atStart => exact ⟨0, Nat.zero_le _, rfl, (World.rowIs_made w (.int .i64 0) n 3).congr (by simp), (Below.refl _ _).alloc (Nat.le_refl _) _⟩
    case round =>
      obtain ⟨k, hk, rfl, hrow, hbel⟩ := hrel
      by_cases hlt : k < n
      · obtain ⟨b0, o0, e, hc⟩ := hK.out (by omega)
        cases e
        have hcell : wr.cell? ⟨b0, o0 + k, none⟩ = some (.int .i64 (S k)) := cell_later hbel (hc k hlt)
        have hfr := hrow.frozen k
        have hcl := hrow.cell hlt
        have HR := hrow.set k (.int .i64 (S k))
        have HB := hbel.setCell (p := ⟨w.heap.size, k, none⟩) (Nat.le_refl _) (.int .i64 (S k))
        clear hrow hbel hc
        go_wp2
        go_roundw
        case rel =>
          refine ⟨k + 1, by omega, by go_num, HR.congr ?_, HB⟩
          intro j hj
          by_cases e : j = k
          · subst e; simp
          · simp only [if_neg e]
            by_cases e2 : j < k
            · rw [if_pos e2, if_pos (by omega)]
            · rw [if_neg e2, if_neg (by omega)]
        case measure => simp [intOf]; omega
      · go_wp2
        go_ret
        obtain rfl : k = n := by omega
        exact ⟨_, _, rfl, Row.of_rowIs (hrow.congr (by intro j hj; simp [hj])), hbel⟩

end Go.Proofs.Qxb6601034a
