/-
  THE WALKS of seat b6601034a, fifth part: the law FnVariablesPartitionsFlagsBySource.
-/
import Derived.Test.Qxb6601034aW4
import Derived.Deep.RegionWith
namespace Go.Proofs.Qxb6601034a
open Go.RowKit Plain Go.Maps Go.Sort
set_option linter.unusedVariables false

/-- Outside the bounds that the law tests: true. -/
theorem law4_out (a b c : Option Addr) (n n' m m' l l' : Nat) (K V : Nat → ByteArray) (w : World) (hn : n ≤ 9223372036854775807) (hm : m ≤ 9223372036854775807) (hl : l ≤ 9223372036854775807)
    (hK : Hid (Row w a n (fun i => .string (K i)))) (hV : Hid (Row w c l (fun i => .string (V i)))) (hbad : Hid (¬ (n ≤ 4096 ∧ n = m ∧ n = l))) :
    Calls Try.prog 4 #[.slice a n n', .slice b m m', .slice c l l'] w fun e w' => e = .returned (.bool true) ∧ w' = w := by
  go_enter Try.func4, Try.ntmps4
  go_wp2_with fail
  refine (bytes4_any a b c n n' m m' l l' K V w hn hm hl hK hV).mono ?_
  rintro e w1 ⟨⟨r, rfl⟩, rfl⟩
  simp only []
  cases r
  · go_wp2
    go_ret
    exact ⟨rfl, rfl⟩
  · go_wp2_with fail
    all_goals try (go_ret; exact ⟨rfl, rfl⟩)
    refine (foot_any a b c n n' m m' l l' K V w1 (by omega) (by omega) (by omega) hK hV).mono ?_
    rintro e w2 ⟨⟨t, rfl⟩, rfl⟩
    simp only []
    by_cases ht : 1048576 < t
    · go_wp2
      go_ret
      exact ⟨rfl, rfl⟩
    · by_cases e1 : n = m
      · by_cases e2 : n = l
        · exact absurd ⟨by omega, e1, e2⟩ hbad.out
        · have g1 : ((n : Int) != (m : Int)) = false := by simp; omega
          have g2 : ((n : Int) != (l : Int)) = true := by simp; omega
          clear e1 e2
          go_wp2
          go_ret
          exact ⟨rfl, rfl⟩
      · have g1 : ((n : Int) != (m : Int)) = true := by simp; omega
        clear e1
        go_wp2
        go_ret
        exact ⟨rfl, rfl⟩

theorem kb_yes {K : Nat → ByteArray} {m k : Nat} (h : ((K m).toList == (K k).toList) = true) : kb K m = kb K k := by
  rw [ByteArray.toList_eq, ByteArray.toList_eq] at h
  exact eq_of_beq h
theorem kb_no {K : Nat → ByteArray} {m k : Nat} (h : ((K m).toList == (K k).toList) = false) : ¬ kb K m = kb K k := by
  rw [ByteArray.toList_eq, ByteArray.toList_eq] at h
  exact beq_eq_false_iff_ne.1 h

section
variable {α : Type} [BEq α] [LawfulBEq α]
theorem firsts_old (f : Nat → α) (k m : Nat) (hm : m < k) (h : f m = f k) : firsts f (k + 1) = firsts f k := by
  rw [firsts, occ_true f k (f k) m hm h]; rfl
theorem firsts_new (f : Nat → α) (k : Nat) (h : ∀ i, i < k → ¬ f i = f k) : firsts f (k + 1) = firsts f k + 1 := by
  rw [firsts, occ_false f k (f k) h]; rfl
end
theorem not_next {α : Type} (f : Nat → α) (k m : Nat) (h : ∀ i, i < m → ¬ f i = f k) (h2 : ¬ f m = f k) : ∀ i, i < m + 1 → ¬ f i = f k := by
  intro i hi
  by_cases e : i = m
  · subst e; exact h2
  · exact h i (by omega)

theorem ts_le {α β : Type} {l : List α} {f : α → β} {ts : List β} (h : ts.Perm (l.map f)) {p k : Nat} (hk : p + l.length ≤ k) : p + ts.length ≤ k := by
  rw [h.length_eq, List.length_map]; exact hk

set_option maxHeartbeats 2000000 in
theorem law4_in (a b c : Option Addr) (n n' m' l' : Nat) (K V : Nat → ByteArray) (S : Nat → Int) (w : World) (hn : n ≤ 4096)
    (hK : Hid (Row w a n (fun i => .string (K i)))) (hS : Hid (Row w b n (fun i => .int .i64 (S i)))) (hV : Hid (Row w c n (fun i => .string (V i)))) (hlen : Hid (∀ i, i < n → (K i).size ≤ maxLen)) :
    Calls Try.prog 4 #[.slice a n n', .slice b n m', .slice c n l'] w fun e w' => e = .returned (.bool true) ∧ Below w.heap.size w w' := by
  have hn0 : ((n : Int) != (n : Int)) = false := by simp
  go_enter Try.func4, Try.ntmps4
  go_wp2_with fail
  refine (bytes4_any a b c n n' n m' n l' K V w (by omega) (by omega) (by omega) hK hV).mono ?_
  rintro e w1 ⟨⟨r, rfl⟩, hw1⟩
  obtain rfl : w1 = w := hw1
  simp only []
  cases r
  · go_wp2
    go_ret
    exact ⟨rfl, Below.refl _ _⟩
  go_wp2_with fail
  refine (foot_any a b c n n' n m' n l' K V w1 hn hn hn hK hV).mono ?_
  rintro e w2 ⟨⟨t, rfl⟩, rfl⟩
  simp only []
  by_cases ht : 1048576 < t
  · go_wp2
    go_ret
    exact ⟨rfl, Below.refl _ _⟩
  go_wp2_with fail
  refine (copyS_any a n n' K _ hn hK).mono ?_
  rintro e w3 ⟨a1, c1, rfl, hr1, hb1⟩
  have HS3 := hid (hS.out.later hb1)
  have HV3 := hid (hV.out.later hb1)
  have HK3 := hid hr1
  clear hS hV hK hr1
  simp only []
  go_wp2_with fail
  refine (copyI_any b n m' S _ hn HS3).mono ?_
  rintro e w4 ⟨a2, c2, rfl, hr2, hb2⟩
  have HV4 := hid (HV3.out.later hb2)
  have HK4 := hid (HK3.out.later hb2)
  have HS4 := hid hr2
  clear HS3 HV3 HK3 hr2
  simp only []
  go_wp2_with fail
  refine (copyS_any c n l' V _ hn HV4).mono ?_
  rintro e w5 ⟨a3, c3, rfl, hr3, hb3⟩
  have HK5 := hid (HK4.out.later hb3)
  have HS5 := hid (HS4.out.later hb3)
  have HV5 := hid hr3
  clear HS4 HV4 HK4 hr3
  simp only []
  go_wp2_with fail
  refine (newOrigins_any a1 a2 a3 n c1 c2 c3 K V S w5 hn HK5 HS5 HV5 hlen).mono ?_
  rintro e w6 ⟨rfl, ⟨D, hown, htell⟩, hb4⟩
  have HO := hid hown
  have HT := hid htell
  have HK6 := hid (HK5.out.later hb4)
  have HS6 := hid (HS5.out.later hb4)
  have HB6 := hid (hb1.trans ((hb2.mono hb1.size).trans ((hb3.mono (Nat.le_trans hb1.size hb2.size)).trans (hb4.mono (Nat.le_trans hb1.size (Nat.le_trans hb2.size hb3.size))))))
  clear hown htell HK5 HS5 HV5 hb1 hb2 hb3 hb4
  simp only []
  go_wp2
  have HKW := hid (HK6.out.later ((Below.refl _ _).alloc (Nat.le_refl _) (.cells #[.string ByteArray.empty, .map (some (w5.heap.size + 1)), .slice none 0 0] 30)))
  have HSW := hid (HS6.out.later ((Below.refl _ _).alloc (Nat.le_refl _) (.cells #[.string ByteArray.empty, .map (some (w5.heap.size + 1)), .slice none 0 0] 30)))
  have HOW := hid (HO.out.alloc (.cells #[.string ByteArray.empty, .map (some (w5.heap.size + 1)), .slice none 0 0] 30))
  have HBW := hid (HB6.out.alloc HB6.out.size (.cells #[.string ByteArray.empty, .map (some (w5.heap.size + 1)), .slice none 0 0] 30))
  have HC0 : Hid ((w6.alloc (.cells #[.string ByteArray.empty, .map (some (w5.heap.size + 1)), .slice none 0 0] 30)).cell? ⟨w6.heap.size, 0, none⟩ = some (.string ByteArray.empty)) := by simp [Hid]
  have HC1 : Hid ((w6.alloc (.cells #[.string ByteArray.empty, .map (some (w5.heap.size + 1)), .slice none 0 0] 30)).cell? ⟨w6.heap.size, 1, none⟩ = some (.map (some (w5.heap.size + 1)))) := by simp [Hid]
  have HC2 : Hid ((w6.alloc (.cells #[.string ByteArray.empty, .map (some (w5.heap.size + 1)), .slice none 0 0] 30)).cell? ⟨w6.heap.size, 2, none⟩ = some (.slice none 0 0)) := by simp [Hid]
  clear HK6 HS6 HO HB6
  generalize w6.alloc (.cells #[.string ByteArray.empty, .map (some (w5.heap.size + 1)), .slice none 0 0] 30) = W at *
  go_loopw [8, 9] (fun dk i wr => ∃ k : Nat, k ≤ n ∧ i = .int .i64 k ∧ (∃ q : Nat, Hid (q = firsts (kb K) k) ∧ q ≤ k ∧ dk = .int .i64 q) ∧ Below W.heap.size W wr) (fun _ i _ => n - (intOf i).toNat)
  case atStart => exact ⟨0, Nat.zero_le _, rfl, ⟨0, rfl, Nat.le_refl _, rfl⟩, Below.refl _ _⟩
  case round =>
    obtain ⟨k, hk, rfl, ⟨q, hq, hqk, rfl⟩, hbel⟩ := hrel
    by_cases hlt : k < n
    · go_wp2
      obtain ⟨wo, rfl⟩ : ∃ wo : World, wo = wr := ⟨_, rfl⟩
      go_loopw [10, 11] (fun f j wr => ∃ m : Nat, m ≤ k ∧ j = .int .i64 m ∧ f = .bool true ∧ Hid (∀ i, i < m → ¬ kb K i = kb K k) ∧ Below W.heap.size W wr) (fun _ j _ => k - (intOf j).toNat)
      case atStart => exact ⟨0, Nat.zero_le _, rfl, rfl, fun i hi => by omega, hbel⟩
      case round =>
        obtain ⟨m, hm, rfl, rfl, hno, hbel2⟩ := hrel
        by_cases hlt2 : m < k
        · obtain ⟨b0, o0, rfl, hc⟩ := HKW.out (by omega)
          have g1 := cell_later hbel2 (hc m (by omega))
          have g2 := cell_later hbel2 (hc k hlt)
          clear hc
          have i1 : (m : Int) < (n : Int) := by omega
          have i2 : (k : Int) < (n : Int) := by omega
          go_wp2
          go_quiet (fail)
          go_wp2
          · have hy : ((K m).toList == (K k).toList) = true := by assumption
            go_roundw
            case rel => exact ⟨k + 1, by omega, by go_num, ⟨q, hid (by rw [hq.out]; exact (firsts_old (kb K) k m hlt2 (kb_yes hy)).symm), by omega, rfl⟩, below_drewN hbel2 _⟩
            case measure => simp [intOf]; omega
          · have hy : ((K m).toList == (K k).toList) = false := by assumption
            go_roundw
            case rel => exact ⟨m + 1, by omega, by go_num, rfl, hid (not_next (kb K) k m hno.out (kb_no hy)), below_drewN hbel2 _⟩
            case measure => simp [intOf]; omega
        · obtain rfl : m = k := by omega
          go_wp2
          go_roundw
          case rel => exact ⟨m + 1, by omega, by go_num, ⟨q + 1, hid (by rw [hq.out]; exact (firsts_new (kb K) m hno.out).symm), by omega, by go_num⟩, hbel2⟩
          case measure => simp [intOf]; omega
    · obtain rfl : k = n := by omega
      go_wp2
      go_loopw [12, 13] (fun sm i wr => ∃ j : Nat, j ≤ k ∧ i = .int .i64 j ∧ (∃ p : Nat, Hid (p = Plain.part (kb K) S k j) ∧ p ≤ k ∧ sm = .int .i64 p) ∧ Below W.heap.size W wr) (fun _ i _ => k - (intOf i).toNat)
      case atStart => exact ⟨0, Nat.zero_le _, rfl, ⟨0, hid (part_zero (kb K) S k).symm, Nat.zero_le _, rfl⟩, hbel⟩
      case round =>
        obtain ⟨j, hj, rfl, ⟨p, hp, hpk, rfl⟩, hbel1⟩ := hrel
        by_cases hlt1 : j < k
        · go_wp2
          obtain ⟨wo, rfl⟩ : ∃ wo : World, wo = wr := ⟨_, rfl⟩
          go_loopw [14, 15] (fun f i wr => ∃ m : Nat, m ≤ j ∧ i = .int .i64 m ∧ f = .bool true ∧ Hid (∀ i, i < m → ¬ S i = S j) ∧ Below W.heap.size W wr) (fun _ i _ => j - (intOf i).toNat)
          case atStart => exact ⟨0, Nat.zero_le _, rfl, rfl, fun i hi => by omega, hbel1⟩
          case round =>
            obtain ⟨m, hm, rfl, rfl, hno, hbel2⟩ := hrel
            obtain ⟨b0, o0, rfl, hc⟩ := HSW.out (by omega)
            have g2 := cell_later hbel2 (hc j hlt1)
            have i2 : (j : Int) < (k : Int) := by omega
            by_cases hlt2 : m < j
            · have g1 := cell_later hbel2 (hc m (by omega))
              clear hc
              have i1 : (m : Int) < (k : Int) := by omega
              go_wp2
              go_quiet (fail)
              go_wp2
              · have hy : (S m == S j) = true := by assumption
                go_roundw
                case rel => exact ⟨j + 1, by omega, by go_num, ⟨p, hid (by rw [hp.out]; exact (part_old (kb K) S k j (occ_true S j (S j) m hlt2 (eq_of_beq hy))).symm), hpk, rfl⟩, below_drewN hbel2 _⟩
                case measure => simp [intOf]; omega
              · have hy : (S m == S j) = false := by assumption
                go_roundw
                case rel => exact ⟨m + 1, by omega, by go_num, rfl, hid (not_next S j m hno.out (beq_eq_false_iff_ne.1 hy)), below_drewN hbel2 _⟩
                case measure => simp [intOf]; omega
            · obtain rfl : m = j := by omega
              have pc0 := cell_later hbel2 HC0.out
              have pc1 := cell_later hbel2 HC1.out
              have pc2 := cell_later hbel2 HC2.out
              have HV9 := hid (variables_any (w5.heap.size + 1) k (S m) K V S D wr.drew hn (ownsMap_block HOW.out (hbel2.block _ HOW.out.lt)) HT)
              have hpn := part_new (kb K) S k m (occ_false S m (S m) hno.out)
              have hpl := part_le (kb K) S k (m + 1)
              have HP := hid (hpn)
              rw [hpn, ← hp.out] at hpl
              clear hc hpn
              go_wp2
              go_region_with (go_at_call 12; refine HV9.out.mono ?_; rintro e w9 ⟨a9, c9, ts, rfl, hperm, _, _, hb9⟩; have hts := ts_le hperm hpl)
              all_goals
                have hb10 : Below W.heap.size W w9 := hbel2.drew.trans (hb9.mono hbel2.size)
                have HPT : Hid (p + ts.length = Plain.part (kb K) S k (m + 1)) := by
                  show _ = _
                  rw [HP.out, ← hp.out, hperm.length_eq, List.length_map]
                clear hperm
                go_wp2
                go_roundw
                case rel => exact ⟨m + 1, by omega, by go_num, ⟨p + ts.length, HPT, hts, by go_num⟩, hb10⟩
                case measure => simp [intOf]; omega
        · obtain rfl : j = k := by omega
          have hpq : ((p : Int) == (q : Int)) = true := by
            have : p = q := by rw [hp.out, part_all, ← hq.out]
            simp [this]
          go_wp2
          go_ret
          exact ⟨rfl, HBW.out.trans (hbel1.mono HBW.out.size)⟩

end Go.Proofs.Qxb6601034a
