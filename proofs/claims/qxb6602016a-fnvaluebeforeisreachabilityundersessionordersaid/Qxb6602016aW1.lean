/-
  THE WALKS of seat b6602016a, first part: what is known of slices that came in; the bound on lengths, the bytes of the edges, whether the edges are in range, the domain, the copies.
-/
import Derived.Test.Qxb6602016aProg
import Derived.Test.Qxb6602016aTab
import Derived.WalkKit
import Derived.WalkSpells
import Derived.WalkLawsBesides
import Derived.RegionTactic
import Derived.ChangeAlike
import Derived.Deep.QuietTactic
import Derived.BigQuiet
import Derived.Deep.OwnRows
import Derived.Lib.SliceRun
namespace Go.Proofs.Qxb6602016a
open Go.RowKit Tar
set_option linter.unusedVariables false

theorem hid {p : Prop} (h : p) : Hid p := h

theorem Try.info3 : (Try.prog.info? 3).map (fun i => (i.zero, i.size, i.bytes)) = some (some (.int .i64 0), 1, 8) := by kernel_rfl
theorem Try.info4 : (Try.prog.info? 4).map (fun i => (i.zero, i.size, i.bytes)) = some (some (.bool false), 1, 1) := by kernel_rfl
theorem Try.info21 : (Try.prog.info? 21).map (fun i => (i.zero, i.size, i.bytes)) = some (some (.int .i32 0), 1, 4) := by kernel_rfl

/-- The slice at a, of n elements, holds the values f 0, f 1 ..: nothing is said of one without elements. -/
def Row (w : World) (a : Option Addr) (n : Nat) (f : Nat → Value) : Prop :=
  0 < n → ∃ b o, a = some ⟨b, o, none⟩ ∧ ∀ i, i < n → w.cell? ⟨b, o + i, none⟩ = some (f i)

theorem Row.later {w w' : World} {a : Option Addr} {n : Nat} {f : Nat → Value} (h : Row w a n f) (hb : Below w.heap.size w w') : Row w' a n f := by
  intro hn
  obtain ⟨b, o, e, hc⟩ := h hn
  exact ⟨b, o, e, fun i hi => cell_later hb (hc i hi)⟩

theorem Row.of_rowIs {w : World} {g : Nat} {t : TypeId} {n : Nat} {f : Nat → Value} (h : w.rowIs g t n f) : Row w (some ⟨g, 0, none⟩) n f :=
  fun _ => ⟨g, 0, rfl, fun i hi => by rw [Nat.zero_add]; exact h.cell hi⟩

/-- It answers a bool, whichever. -/
def AnyBool (e : Ending) : Prop := ∃ r, e = .returned (.bool r)
theorem AnyBool.of (r : Bool) : AnyBool (.returned (.bool r)) := ⟨r, rfl⟩
/-- It answers an int, whichever. -/
def AnyInt (e : Ending) : Prop := ∃ r, e = .returned (.int .i64 r)
theorem AnyInt.of (r : Int) : AnyInt (.returned (.int .i64 r)) := ⟨r, rfl⟩

/-- The graph in memory: a slice of slices of ints. -/
structure Succ (w : World) (a : Option Addr) (n : Nat) (deg : Nat → Nat) (A : Nat → Option Addr) (C : Nat → Nat) (Z : Nat → Nat → Int) : Prop where
  top : Row w a n (fun i => .slice (A i) (deg i) (C i))
  row : ∀ i, i < n → Row w (A i) (deg i) (fun k => .int .i64 (Z i k))
  deg : ∀ i, i < n → deg i ≤ 9223372036854775807

theorem Succ.later {w w' : World} {a : Option Addr} {n : Nat} {deg : Nat → Nat} {A : Nat → Option Addr} {C : Nat → Nat} {Z : Nat → Nat → Int} (h : Succ w a n deg A C Z) (hb : Below w.heap.size w w') : Succ w' a n deg A C Z :=
  ⟨h.top.later hb, fun i hi => (h.row i hi).later hb, h.deg⟩

/-! ### the bytes of the edges: an int, whichever -/
set_option maxHeartbeats 400000 in
theorem succBytes_any (a : Option Addr) (n c : Nat) (deg : Nat → Nat) (A : Nat → Option Addr) (C : Nat → Nat) (Z : Nat → Nat → Int) (w : World) (hn : n ≤ 9223372036854775807) (hS : Hid (Succ w a n deg A C Z)) :
    Calls Try.prog 9 #[.slice a n c] w fun e w' => AnyInt e ∧ w' = w := by
  go_enter Try.func9, Try.ntmps9
  go_wp2
  go_loop [3, 4] (fun t i => (∃ k : Nat, k ≤ n ∧ i = .int .i64 k) ∧ ∃ z : Int, t = .int .i64 z) (fun _ i => n - (intOf i).toNat)
  case atStart => exact ⟨⟨0, Nat.zero_le _, rfl⟩, _, rfl⟩
  case round =>
    obtain ⟨⟨k, hk, rfl⟩, z, rfl⟩ := hrel
    by_cases hlt : k < n
    · obtain ⟨b0, o0, rfl, hc⟩ := hS.out.top (by omega)
      have hcell := hc k hlt
      clear hc
      go_wp2
      all_goals try (go_ret; exact ⟨AnyInt.of _, rfl⟩)
      go_round
      case rel => exact ⟨⟨k + 1, by omega, by go_num⟩, _, rfl⟩
      case measure => simp [intOf]; omega
    · go_wp2
      go_ret
      exact ⟨AnyInt.of _, rfl⟩

/-! ### whether the edges are in range -/
/-- It answers a bool; where that is true p holds. -/
def Tests (e : Ending) (p : Prop) : Prop := ∃ r : Bool, e = .returned (.bool r) ∧ (r = true → p)
theorem Tests.no {p : Prop} : Tests (.returned (.bool false)) p := ⟨false, rfl, fun h => by cases h⟩
theorem Tests.yes {p : Prop} (h : p) : Tests (.returned (.bool true)) p := ⟨true, rfl, fun _ => h⟩

def InRange (n : Nat) (deg : Nat → Nat) (Z : Nat → Nat → Int) : Prop := ∀ i, i < n → ∀ k, k < deg i → 0 ≤ Z i k ∧ Z i k < n

set_option maxHeartbeats 400000 in
theorem edges_any (a : Option Addr) (n c : Nat) (deg : Nat → Nat) (A : Nat → Option Addr) (C : Nat → Nat) (Z : Nat → Nat → Int) (w : World) (hn : n ≤ 9223372036854775807) (hS : Hid (Succ w a n deg A C Z)) :
    Calls Try.prog 10 #[.slice a n c] w fun e w' => Tests e (InRange n deg Z) ∧ w' = w := by
  go_enter Try.func10, Try.ntmps10
  go_wp2
  go_loop [4] (fun i => ∃ k : Nat, k ≤ n ∧ i = .int .i64 k ∧ Hid (∀ i, i < k → ∀ j, j < deg i → 0 ≤ Z i j ∧ Z i j < n)) (fun i => n - (intOf i).toNat)
  case atStart => exact ⟨0, Nat.zero_le _, rfl, fun i hi => by omega⟩
  case round =>
    obtain ⟨k, hk, rfl, hall⟩ := hrel
    by_cases hlt : k < n
    · obtain ⟨b0, o0, rfl, hc⟩ := hS.out.top (by omega)
      have hcell := hc k hlt
      have hdk := hS.out.deg k hlt
      clear hc
      go_wp2
      go_loop [5] (fun i => ∃ j : Nat, j ≤ deg k ∧ i = .int .i64 j ∧ Hid (∀ j', j' < j → 0 ≤ Z k j' ∧ Z k j' < n)) (fun i => deg k - (intOf i).toNat)
      case atStart => exact ⟨0, Nat.zero_le _, rfl, fun i hi => by omega⟩
      case round =>
        obtain ⟨j, hj, rfl, hrow⟩ := hrel
        by_cases hlt2 : j < deg k
        · obtain ⟨b1, o1, hA, hc1⟩ := hS.out.row k hlt (by omega)
          have g1 := hc1 j hlt2
          rw [hA] at hcell
          clear hc1 hA
          go_wp2
          all_goals try (go_ret; exact ⟨Tests.no, rfl⟩)
          have hz : 0 ≤ Z k j ∧ Z k j < n := by assumption
          go_round
          case rel => exact ⟨j + 1, by omega, by go_num, fun j' hj' => by
            by_cases e : j' = j
            · subst e; exact hz
            · exact hrow.out j' (by omega)⟩
          case measure => simp [intOf]; omega
        · obtain rfl : j = deg k := by omega
          go_wp2
          go_round
          case rel => exact ⟨k + 1, by omega, by go_num, fun i hi j2 hj2 => by
            by_cases e : i = k
            · subst e; exact hrow.out j2 hj2
            · exact hall.out i (by omega) j2 hj2⟩
          case measure => simp [intOf]; omega
    · go_wp2
      go_ret
      obtain rfl : k = n := by omega
      exact ⟨Tests.yes hall.out, rfl⟩

/-! ### the domain -/
structure Dom (n ls lp : Nat) (deg : Nat → Nat) (Z : Nat → Nat → Int) (ses pos : Nat → Int) (S : Int) : Prop where
  rng : InRange n deg Z
  hs : n ≤ ls
  hp : n ≤ lp
  s0 : 0 ≤ S
  s1 : S ≤ 65536
  mul : 0 < S → (n : Int) ≤ 1048576 / S
  each : ∀ i, i < n → 0 ≤ ses i ∧ ses i < S ∧ 0 ≤ pos i

set_option maxHeartbeats 1000000 in
theorem domain_any (a aS aP : Option Addr) (n c ls cs lp cp : Nat) (deg : Nat → Nat) (A : Nat → Option Addr) (C : Nat → Nat) (Z : Nat → Nat → Int) (ses pos : Nat → Int) (S : Int) (w : World) (hn : n ≤ 512) (hls : ls ≤ 65536) (hlp : lp ≤ 65536)
    (hS : Hid (Succ w a n deg A C Z)) (hse : Hid (Row w aS ls (fun i => .int .i64 (ses i)))) (hpo : Hid (Row w aP lp (fun i => .int .i32 (pos i)))) :
    Calls Try.prog 15 #[.slice a n c, .slice aS ls cs, .slice aP lp cp, .int .i64 S] w fun e w' => Tests e (Dom n ls lp deg Z ses pos S) ∧ w' = w := by
  go_enter Try.func15, Try.ntmps15
  go_wp2_with fail
  refine (edges_any a n c deg A C Z w (by omega) hS).mono ?_
  rintro e w1 ⟨⟨r, rfl, hr⟩, hw1⟩
  obtain rfl : w1 = w := hw1
  simp only []
  cases r
  · go_wp2
    go_ret
    exact ⟨Tests.no, rfl⟩
  have HR := hid (hr rfl)
  clear hr
  by_cases h1 : ls < n
  · go_wp2
    go_ret
    exact ⟨Tests.no, rfl⟩
  by_cases h2 : lp < n
  · go_wp2
    go_ret
    exact ⟨Tests.no, rfl⟩
  by_cases h3 : S < 0
  · go_wp2
    go_ret
    exact ⟨Tests.no, rfl⟩
  by_cases h4 : 65536 < S
  · go_wp2
    go_ret
    exact ⟨Tests.no, rfl⟩
  by_cases h5 : 0 < S ∧ 1048576 / S < (n : Int)
  · obtain ⟨h5, h6⟩ := h5
    go_wp2
    go_ret
    exact ⟨Tests.no, rfl⟩
  have h5' : 0 < S → (n : Int) ≤ 1048576 / S := fun h => by
    by_cases e : 1048576 / S < (n : Int)
    · exact absurd ⟨h, e⟩ h5
    · omega
  have H5 := hid h5'
  clear h5 h5'
  have key : (0 < S ∧ (n : Int) ≤ 1048576 / S) ∨ S ≤ 0 := by
    by_cases e : 0 < S
    · exact .inl ⟨e, H5.out e⟩
    · exact .inr (by omega)
  rcases key with ⟨k1, k2⟩ | k1
  all_goals
    go_wp2
    go_loop [10] (fun i => ∃ k : Nat, k ≤ n ∧ i = .int .i64 k ∧ Hid (∀ i, i < k → 0 ≤ ses i ∧ ses i < S ∧ 0 ≤ pos i)) (fun i => n - (intOf i).toNat)
    case atStart => exact ⟨0, Nat.zero_le _, rfl, fun i hi => by omega⟩
    case round =>
      obtain ⟨k, hk, rfl, hall⟩ := hrel
      by_cases hlt : k < n
      · obtain ⟨b1, o1, rfl, hc1⟩ := hse.out (by omega)
        obtain ⟨b2, o2, rfl, hc2⟩ := hpo.out (by omega)
        have g1 := hc1 k (by omega)
        have g2 := hc2 k (by omega)
        clear hc1 hc2
        have i1 : (k : Int) < (ls : Int) := by omega
        have i2 : (k : Int) < (lp : Int) := by omega
        go_wp2
        all_goals try (go_ret; exact ⟨Tests.no, rfl⟩)
        all_goals
          have hz : (0 ≤ ses k ∧ ses k < S) ∧ 0 ≤ pos k := by assumption
          go_round
          case rel => exact ⟨k + 1, by omega, by go_num, fun i hi => by
            by_cases e : i = k
            · subst e; exact ⟨hz.1.1, hz.1.2, hz.2⟩
            · exact hall.out i (by omega)⟩
          case measure => simp [intOf]; omega
      · go_wp2
        go_ret
        obtain rfl : k = n := by omega
        exact ⟨Tests.yes ⟨HR.out, by omega, by omega, by omega, by omega, H5.out, hall.out⟩, rfl⟩

/-! ### the bounds on lengths -/
set_option maxHeartbeats 1000000 in
theorem bytes6_any (a aS aP aF : Option Addr) (n c ls cs lp cp lf cf : Nat) (S r : Int) (deg : Nat → Nat) (A : Nat → Option Addr) (C : Nat → Nat) (Z : Nat → Nat → Int) (w : World) (hn : n ≤ 9223372036854775807) (hls : ls ≤ 9223372036854775807) (hlp : lp ≤ 9223372036854775807) (hlf : lf ≤ 9223372036854775807)
    (hS : Hid (Succ w a n deg A C Z)) :
    Calls Try.prog 21 #[.slice a n c, .slice aS ls cs, .slice aP lp cp, .int .i64 S, .int .i64 r, .slice aF lf cf] w fun e w' => AnyBool e ∧ w' = w := by
  go_enter Try.func21, Try.ntmps21
  go_wp2
  all_goals try (go_ret; exact ⟨AnyBool.of _, rfl⟩)
  go_loop [13, 14] (fun t i => (∃ k : Nat, k ≤ n ∧ i = .int .i64 k) ∧ ∃ z : Int, t = .int .i64 z) (fun _ i => n - (intOf i).toNat)
  case atStart => exact ⟨⟨0, Nat.zero_le _, rfl⟩, _, rfl⟩
  case round =>
    obtain ⟨⟨k, hk, rfl⟩, z, rfl⟩ := hrel
    by_cases hlt : k < n
    · obtain ⟨b0, o0, rfl, hc⟩ := hS.out.top (by omega)
      have hcell := hc k hlt
      clear hc
      go_wp2
      all_goals try (go_ret; exact ⟨AnyBool.of _, rfl⟩)
      go_round
      case rel => exact ⟨⟨k + 1, by omega, by go_num⟩, _, rfl⟩
      case measure => simp [intOf]; omega
    · go_wp2
      all_goals (go_ret; exact ⟨AnyBool.of _, rfl⟩)

set_option maxHeartbeats 1000000 in
theorem bytes7_any (a aS aP aF : Option Addr) (n c ls cs lp cp lf cf : Nat) (S r : Int) (deg : Nat → Nat) (A : Nat → Option Addr) (C : Nat → Nat) (Z : Nat → Nat → Int) (w : World) (hn : n ≤ 9223372036854775807) (hls : ls ≤ 9223372036854775807) (hlp : lp ≤ 9223372036854775807) (hlf : lf ≤ 9223372036854775807)
    (hS : Hid (Succ w a n deg A C Z)) :
    Calls Try.prog 23 #[.slice a n c, .slice aS ls cs, .slice aP lp cp, .int .i64 S, .int .i64 r, .slice aF lf cf] w fun e w' => AnyBool e ∧ w' = w := by
  go_enter Try.func23, Try.ntmps23
  go_wp2
  all_goals try (go_ret; exact ⟨AnyBool.of _, rfl⟩)
  go_loop [13, 14] (fun t i => (∃ k : Nat, k ≤ n ∧ i = .int .i64 k) ∧ ∃ z : Int, t = .int .i64 z) (fun _ i => n - (intOf i).toNat)
  case atStart => exact ⟨⟨0, Nat.zero_le _, rfl⟩, _, rfl⟩
  case round =>
    obtain ⟨⟨k, hk, rfl⟩, z, rfl⟩ := hrel
    by_cases hlt : k < n
    · obtain ⟨b0, o0, rfl, hc⟩ := hS.out.top (by omega)
      have hcell := hc k hlt
      clear hc
      go_wp2
      all_goals try (go_ret; exact ⟨AnyBool.of _, rfl⟩)
      go_round
      case rel => exact ⟨⟨k + 1, by omega, by go_num⟩, _, rfl⟩
      case measure => simp [intOf]; omega
    · go_wp2
      all_goals (go_ret; exact ⟨AnyBool.of _, rfl⟩)

/-! ### the copies -/
/-- What a copy hands back: a slice of the same length; where there is an element it lies in memory of its own. -/
def Copied (w w' : World) (n : Nat) (f : Nat → Value) (e : Ending) : Prop := ∃ a c, e = .returned (.slice a n c) ∧ Row w' a n f ∧ Below w.heap.size w w'

set_option maxHeartbeats 400000 in
theorem clone64_any (a : Option Addr) (n c : Nat) (S : Nat → Int) (w : World) (hn : n ≤ 65536) (hK : Hid (Row w a n (fun i => .int .i64 (S i)))) :
    Calls Try.prog 17 #[.slice a n c] w fun e w' => Copied w w' n (fun i => .int .i64 (S i)) e := by
  have q25 : ∀ (w : World) (a : Option Addr) (n c n' c' : Nat), (binOp .eql 25 (.slice a n c) (.slice none n' c')).run Try.prog w = .ok (.bool a.isNone) w := fun w a n c n' c' => Lib.run_eql_slice_nil w _ _ a n c n' c' Try.underlying25
  have hmk := run_make_row' (P := Try.prog) 25 3 (.int .i64 0) 8 Try.underlying25 Try.info3 rfl .i64 .i64 n (by omega) (by omega)
  cases a with
  | none =>
    by_cases h0 : 0 < n
    · obtain ⟨_, _, e, _⟩ := hK.out h0
      cases e
    · obtain rfl : n = 0 := by omega
      go_enter Try.func17, Try.ntmps17
      go_wp2
      go_ret
      exact ⟨_, _, rfl, fun h => by omega, Below.refl _ _⟩
  | some ad =>
    go_enter Try.func17, Try.ntmps17
    go_wp2
    go_loopw [4] (fun i wr => ∃ k : Nat, k ≤ n ∧ i = .int .i64 k ∧ wr.rowIs w.heap.size 3 n (fun j => if j < k then .int .i64 (S j) else .int .i64 0) ∧ Below w.heap.size w wr) (fun i _ => n - (intOf i).toNat)
    case atStart => exact ⟨0, Nat.zero_le _, rfl, (World.rowIs_made w (.int .i64 0) n 3).congr (by simp), (Below.refl _ _).alloc (Nat.le_refl _) _⟩
    case round =>
      obtain ⟨k, hk, rfl, hrow, hbel⟩ := hrel
      by_cases hlt : k < n
      · obtain ⟨b0, o0, e, hc⟩ := hK.out (by omega)
        cases e
        have hcell : wr.cell? ⟨b0, o0 + k, none⟩ = some (.int .i64 (S k)) := cell_later hbel (hc k hlt)
        have hfr := hrow.frozen k
        have hcl := hrow.cell hlt
        have HR := hrow.set k (.int .i64 (S k))
        have HB := hbel.setCell (p := ⟨w.heap.size, k, none⟩) (Nat.le_refl _) (.int .i64 (S k))
        clear hrow hbel hc
        go_wp2
        go_roundw
        case rel =>
          refine ⟨k + 1, by omega, by go_num, HR.congr ?_, HB⟩
          intro j hj
          by_cases e : j = k
          · subst e; simp
          · simp only [if_neg e]
            by_cases e2 : j < k
            · rw [if_pos e2, if_pos (by omega)]
            · rw [if_neg e2, if_neg (by omega)]
        case measure => simp [intOf]; omega
      · go_wp2
        go_ret
        obtain rfl : k = n := by omega
        exact ⟨_, _, rfl, Row.of_rowIs (hrow.congr (by intro j hj; simp [hj])), hbel⟩

set_option maxHeartbeats 400000 in
theorem clone32_any (a : Option Addr) (n c : Nat) (S : Nat → Int) (w : World) (hn : n ≤ 65536) (hK : Hid (Row w a n (fun i => .int .i32 (S i)))) :
    Calls Try.prog 18 #[.slice a n c] w fun e w' => Copied w w' n (fun i => .int .i32 (S i)) e := by
  have q30 : ∀ (w : World) (a : Option Addr) (n c n' c' : Nat), (binOp .eql 30 (.slice a n c) (.slice none n' c')).run Try.prog w = .ok (.bool a.isNone) w := fun w a n c n' c' => Lib.run_eql_slice_nil w _ _ a n c n' c' Try.underlying30
  have hmk := run_make_row' (P := Try.prog) 30 21 (.int .i32 0) 4 Try.underlying30 Try.info21 rfl .i64 .i64 n (by omega) (by omega)
  cases a with
  | none =>
    by_cases h0 : 0 < n
    · obtain ⟨_, _, e, _⟩ := hK.out h0
      cases e
    · obtain rfl : n = 0 := by omega
      go_enter Try.func18, Try.ntmps18
      go_wp2
      go_ret
      exact ⟨_, _, rfl, fun h => by omega, Below.refl _ _⟩
  | some ad =>
    go_enter Try.func18, Try.ntmps18
    go_wp2
    go_loopw [4] (fun i wr => ∃ k : Nat, k ≤ n ∧ i = .int .i64 k ∧ wr.rowIs w.heap.size 21 n (fun j => if j < k then .int .i32 (S j) else .int .i32 0) ∧ Below w.heap.size w wr) (fun i _ => n - (intOf i).toNat)
    case atStart => exact ⟨0, Nat.zero_le _, rfl, (World.rowIs_made w (.int .i32 0) n 21).congr (by simp), (Below.refl _ _).alloc (Nat.le_refl _) _⟩
    case round =>
      obtain ⟨k, hk, rfl, hrow, hbel⟩ := hrel
      by_cases hlt : k < n
      · obtain ⟨b0, o0, e, hc⟩ := hK.out (by omega)
        cases e
        have hcell : wr.cell? ⟨b0, o0 + k, none⟩ = some (.int .i32 (S k)) := cell_later hbel (hc k hlt)
        have hfr := hrow.frozen k
        have hcl := hrow.cell hlt
        have HR := hrow.set k (.int .i32 (S k))
        have HB := hbel.setCell (p := ⟨w.heap.size, k, none⟩) (Nat.le_refl _) (.int .i32 (S k))
        clear hrow hbel hc
        go_wp2
        go_roundw
        case rel =>
          refine ⟨k + 1, by omega, by go_num, HR.congr ?_, HB⟩
          intro j hj
          by_cases e : j = k
          · subst e; simp
          · simp only [if_neg e]
            by_cases e2 : j < k
            · rw [if_pos e2, if_pos (by omega)]
            · rw [if_neg e2, if_neg (by omega)]
        case measure => simp [intOf]; omega
      · go_wp2
        go_ret
        obtain rfl : k = n := by omega
        exact ⟨_, _, rfl, Row.of_rowIs (hrow.congr (by intro j hj; simp [hj])), hbel⟩


end Go.Proofs.Qxb6602016a
