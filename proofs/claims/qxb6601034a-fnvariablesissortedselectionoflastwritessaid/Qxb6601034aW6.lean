/-
  THE WALKS of seat b6601034a, sixth part: the bound on lengths and the comparison of strings that FnVariablesIsSortedSelectionOfLastWrites takes.
-/
import Derived.Test.Qxb6601034aW5
namespace Go.Proofs.Qxb6601034a
open Go.RowKit Plain Go.Maps Go.Sort
set_option linter.unusedVariables false

set_option maxHeartbeats 1000000 in
theorem bytes3_any (a b c : Option Addr) (n n' m m' l l' : Nat) (K V : Nat → ByteArray) (s : Int) (w : World) (hn : n ≤ 9223372036854775807) (hm : m ≤ 9223372036854775807) (hl : l ≤ 9223372036854775807)
    (hK : Hid (Row w a n (fun i => .string (K i)))) (hV : Hid (Row w c l (fun i => .string (V i)))) :
    Calls Try.prog 7 #[.slice a n n', .slice b m m', .slice c l l', .int .i64 s] w fun e w' => AnyBool e ∧ w' = w := by
  go_enter Try.func7, Try.ntmps7
  go_wp2
  all_goals try (go_ret; exact ⟨AnyBool.of _, rfl⟩)
  go_loop [9, 10] (fun t i => (∃ k : Nat, k ≤ n ∧ i = .int .i64 k) ∧ ∃ z : Int, t = .int .i64 z) (fun _ i => n - (intOf i).toNat)
  case atStart => exact ⟨⟨0, Nat.zero_le _, rfl⟩, _, rfl⟩
  case round =>
    obtain ⟨⟨k, hk, rfl⟩, z, rfl⟩ := hrel
    by_cases hlt : k < n
    · obtain ⟨b0, o0, rfl, hc⟩ := hK.out (by omega)
      have hcell := hc k hlt
      clear hc
      go_wp2
      all_goals try (go_ret; exact ⟨AnyBool.of _, rfl⟩)
      go_round
      case rel => exact ⟨⟨k + 1, by omega, by go_num⟩, _, rfl⟩
      case measure => simp [intOf]; omega
    · go_wp2
      all_goals try (go_ret; exact ⟨AnyBool.of _, rfl⟩)
      go_loop [9, 11] (fun t i => (∃ k : Nat, k ≤ l ∧ i = .int .i64 k) ∧ ∃ z : Int, t = .int .i64 z) (fun _ i => l - (intOf i).toNat)
      case atStart => exact ⟨⟨0, Nat.zero_le _, rfl⟩, _, rfl⟩
      case round =>
        obtain ⟨⟨k2, hk2, rfl⟩, z2, rfl⟩ := hrel
        by_cases hlt2 : k2 < l
        · obtain ⟨b0, o0, rfl, hc⟩ := hV.out (by omega)
          have hcell := hc k2 hlt2
          clear hc
          go_wp2
          all_goals try (go_ret; exact ⟨AnyBool.of _, rfl⟩)
          go_round
          case rel => exact ⟨⟨k2 + 1, by omega, by go_num⟩, _, rfl⟩
          case measure => simp [intOf]; omega
        · go_wp2
          go_ret
          exact ⟨AnyBool.of _, rfl⟩


/-! ### the comparison of strings -/
theorem leq_at {la lb : List UInt8} (h : la ≤ lb) (k : Nat) (h1 : k < la.length) (h2 : k < lb.length) (he : ∀ j (h3 : j < la.length) (h4 : j < lb.length), j < k → la[j] = lb[j]) (hne : ¬ la[k] = lb[k]) : la[k] < lb[k] := by
  rcases List.le_iff_exists.1 h with hp | ⟨i, g1, g2, g3, g4⟩
  · refine absurd ?_ hne
    have : la[k]? = (lb.take la.length)[k]? := by rw [← hp]
    rw [List.getElem?_take_of_lt h1, List.getElem?_eq_getElem h1, List.getElem?_eq_getElem h2] at this
    exact Option.some.inj this
  · rcases Nat.lt_trichotomy i k with hlt | rfl | hgt
    · have := he i g1 g2 hlt
      rw [this] at g4
      exact absurd g4 (by simp)
    · exact g4
    · exact absurd (g3 k hgt) hne

theorem leq_end {la lb : List UInt8} (h : la ≤ lb) (he : ∀ j (h3 : j < la.length) (h4 : j < lb.length), la[j] = lb[j]) : la.length ≤ lb.length := by
  rcases List.le_iff_exists.1 h with hp | ⟨i, g1, g2, g3, g4⟩
  · have := congrArg List.length hp
    simp at this
    omega
  · rw [he i g1 g2] at g4
    exact absurd g4 (by simp)

theorem byte_data (s : ByteArray) (k : Nat) (h : k < s.size) : s[k] = s.data.toList[k]'(by simpa using h) := by
  simp [ByteArray.getElem_eq_getElem_data]

theorem str_lt {s t : ByteArray} {k : Nat} (h1 : k < s.size) (h2 : k < t.size) (hle : s.data.toList ≤ t.data.toList)
    (heq : ∀ j (h3 : j < s.data.toList.length) (h4 : j < t.data.toList.length), j < k → s.data.toList[j] = t.data.toList[j]) (hne : ((s[k].toNat : Int) != (t[k].toNat : Int)) = true) : (s[k].toNat : Int) < (t[k].toNat : Int) := by
  have := leq_at hle k (by simpa using h1) (by simpa using h2) (fun j h3 h4 hj => heq j h3 h4 hj) (by
    rw [← byte_data s k h1, ← byte_data t k h2]
    intro e
    rw [e] at hne
    simp at hne)
  rw [← byte_data s k h1, ← byte_data t k h2] at this
  have := UInt8.lt_iff_toNat_lt.1 this
  omega

theorem str_next {s t : ByteArray} {k : Nat} (h1 : k < s.size) (h2 : k < t.size)
    (heq : ∀ j (h3 : j < s.data.toList.length) (h4 : j < t.data.toList.length), j < k → s.data.toList[j] = t.data.toList[j]) (hne : ((s[k].toNat : Int) != (t[k].toNat : Int)) = false) :
    ∀ j (h3 : j < s.data.toList.length) (h4 : j < t.data.toList.length), j < k + 1 → s.data.toList[j] = t.data.toList[j] := by
  intro j h3 h4 hj
  by_cases e : j = k
  · subst e
    rw [← byte_data s j h1, ← byte_data t j h2]
    have : (s[j].toNat : Int) = (t[j].toNat : Int) := by simpa using hne
    exact UInt8.toNat_inj.1 (by omega)
  · exact heq j h3 h4 (by omega)

theorem str_end {s t : ByteArray} {k : Nat} (h1 : k ≤ s.size) (h2 : k ≤ t.size) (h : ¬ (k < s.size ∧ k < t.size)) (hle : s.data.toList ≤ t.data.toList)
    (heq : ∀ j (h3 : j < s.data.toList.length) (h4 : j < t.data.toList.length), j < k → s.data.toList[j] = t.data.toList[j]) : s.size ≤ t.size := by
  have := leq_end hle (fun j h3 h4 => heq j h3 h4 (by
    have g3 : j < s.size := by simpa using h3
    have g4 : j < t.size := by simpa using h4
    omega))
  simpa using this

set_option maxHeartbeats 400000 in
theorem strLeq_yes (s t : ByteArray) (w : World) (hs : s.size ≤ 9223372036854775807) (ht : t.size ≤ 9223372036854775807) (hle : Hid (s.data.toList ≤ t.data.toList)) :
    Calls Try.prog 13 #[.string s, .string t] w fun e w' => e = .returned (.bool true) ∧ ∃ nq, w' = w.drewN nq := by
  by_cases hc : t.size < s.size
  all_goals
    go_enter Try.func13, Try.ntmps13
    go_wp2
    go_loopw [6] (fun i wr => ∃ k : Nat, k ≤ s.size ∧ k ≤ t.size ∧ i = .int .i64 k ∧ Hid (∀ j (h3 : j < s.data.toList.length) (h4 : j < t.data.toList.length), j < k → s.data.toList[j] = t.data.toList[j]) ∧ ∃ nq, wr = w.drewN nq) (fun i _ => s.size - (intOf i).toNat)
    case atStart => exact ⟨0, Nat.zero_le _, Nat.zero_le _, rfl, fun j _ _ h => by omega, 0, rfl⟩
    case round =>
      obtain ⟨k, hk1, hk2, rfl, heq, nq, rfl⟩ := hrel
      by_cases hlt : k < s.size ∧ k < t.size
      · obtain ⟨h1, h2⟩ := hlt
        have i1 : (k : Int) < (s.size : Int) := by omega
        have i2 : (k : Int) < (t.size : Int) := by omega
        go_wp2
        go_quiet (fail)
        go_wp2
        · have hne : ((s[k].toNat : Int) != (t[k].toNat : Int)) = true := by assumption
          have hlt : (s[k].toNat : Int) < (t[k].toNat : Int) := str_lt h1 h2 hle.out heq.out hne
          go_quiet (fail)
          go_wp2
          go_ret
          exact ⟨rfl, _, by rw [World.drewN_drewN, World.drewN_drewN]⟩
        · have hne : ((s[k].toNat : Int) != (t[k].toNat : Int)) = false := by assumption
          go_roundw
          case rel => exact ⟨k + 1, by omega, by omega, by go_num, hid (str_next h1 h2 heq.out hne), _, rfl⟩
          case measure => simp [intOf]; omega
      · have hfin : s.size ≤ t.size := str_end hk1 hk2 hlt hle.out heq.out
        have hf : (s.size : Int) ≤ (t.size : Int) := by omega
        first
          | (exfalso; omega)
          | (go_wp2; go_ret; exact ⟨rfl, _, rfl⟩)

end Go.Proofs.Qxb6601034a
