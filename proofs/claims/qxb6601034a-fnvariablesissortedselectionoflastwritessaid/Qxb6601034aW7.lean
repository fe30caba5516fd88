/-
  THE WALKS of seat b6601034a, seventh part: the law FnVariablesIsSortedSelectionOfLastWrites.
-/
import Derived.Test.Qxb6601034aW6
namespace Go.Proofs.Qxb6601034a
open Go.RowKit Plain Go.Maps Go.Sort
set_option linter.unusedVariables false

set_option maxRecDepth 100000 in
/-- Outside the bounds that the law tests: true. -/
theorem law3_out (a b c : Option Addr) (n n' m m' l l' : Nat) (K V : Nat → ByteArray) (s : Int) (w : World) (hn : n ≤ 9223372036854775807) (hm : m ≤ 9223372036854775807) (hl : l ≤ 9223372036854775807)
    (hK : Hid (Row w a n (fun i => .string (K i)))) (hV : Hid (Row w c l (fun i => .string (V i)))) (hbad : Hid (¬ (n ≤ 4096 ∧ n = m ∧ n = l))) :
    Calls Try.prog 3 #[.slice a n n', .slice b m m', .slice c l l', .int .i64 s] w fun e w' => e = .returned (.bool true) ∧ w' = w := by
  go_enter Try.func3, Try.ntmps3
  go_wp2_with fail
  refine (bytes3_any a b c n n' m m' l l' K V s w hn hm hl hK hV).mono ?_
  rintro e w1 ⟨⟨r, rfl⟩, rfl⟩
  simp only []
  cases r
  · go_wp2
    go_ret
    exact ⟨rfl, rfl⟩
  · go_wp2_with fail
    all_goals try (go_ret; exact ⟨rfl, rfl⟩)
    refine (foot_any a b c n n' m m' l l' K V w1 (by omega) (by omega) (by omega) hK hV).mono ?_
    rintro e w2 ⟨⟨t, rfl⟩, rfl⟩
    simp only []
    by_cases ht : 1048576 < t
    · go_wp2
      go_ret
      exact ⟨rfl, rfl⟩
    · by_cases e1 : n = m
      · by_cases e2 : n = l
        · exact absurd ⟨by omega, e1, e2⟩ hbad.out
        · have g1 : ((n : Int) != (m : Int)) = false := by simp; omega
          have g2 : ((n : Int) != (l : Int)) = true := by simp; omega
          clear e1 e2
          go_wp2
          go_ret
          exact ⟨rfl, rfl⟩
      · have g1 : ((n : Int) != (m : Int)) = true := by simp; omega
        clear e1
        go_wp2
        go_ret
        exact ⟨rfl, rfl⟩

/-! ### what the law counts -/
/-- How many of the first k places answer p. -/
def cntTo (p : Nat → Bool) : Nat → Nat
  | 0 => 0
  | k + 1 => cntTo p k + if p k then 1 else 0

theorem cntTo_eq (p : Nat → Bool) (k : Nat) : cntTo p k = ((List.range k).filter p).length := by
  induction k with
  | zero => rfl
  | succ k ih =>
    rw [cntTo, ih, List.range_succ, List.filter_append, List.length_append]
    cases h : p k <;> simp [h]

theorem cntTo_le (p : Nat → Bool) (k : Nat) : cntTo p k ≤ k := by
  induction k with
  | zero => exact Nat.le_refl _
  | succ k ih => rw [cntTo]; split <;> omega

theorem cntTo_yes {p : Nat → Bool} {k : Nat} (h : p k = true) : cntTo p (k + 1) = cntTo p k + 1 := by rw [cntTo, h]; rfl
theorem cntTo_no {p : Nat → Bool} {k : Nat} (h : p k = false) : cntTo p (k + 1) = cntTo p k := by rw [cntTo, h]; rfl

/-- The chosen places: last writes of that source. -/
def ch (K : Nat → ByteArray) (S : Nat → Int) (n : Nat) (s : Int) (i : Nat) : Bool := isLast (kb K) n i && (S i == s)

theorem ch_src {K : Nat → ByteArray} {S : Nat → Int} {n : Nat} {s : Int} {i : Nat} (h : (S i != s) = true) : ch K S n s i = false := by
  have : (S i == s) = false := by simpa using h
  unfold ch; rw [this, Bool.and_false]
theorem ch_yes {K : Nat → ByteArray} {S : Nat → Int} {n : Nat} {s : Int} {i : Nat} (hi : i < n) (h : (S i != s) = false) (hl : ∀ j, i < j → j < n → ¬ kb K j = kb K i) : ch K S n s i = true := by
  have : (S i == s) = true := by simpa using h
  unfold ch; rw [this, (isLast_iff (kb K) n i hi).2 hl]; rfl
theorem ch_no {K : Nat → ByteArray} {S : Nat → Int} {n : Nat} {s : Int} {i j : Nat} (hi : i < n) (hij : i < j) (hj : j < n) (h : kb K j = kb K i) : ch K S n s i = false := by
  unfold ch
  cases hl : isLast (kb K) n i with
  | false => rfl
  | true => exact absurd h ((isLast_iff (kb K) n i hi).1 hl j hij hj)

theorem ch_lasts (K : Nat → ByteArray) (S : Nat → Int) (n : Nat) (s : Int) : (lasts (kb K) n fun j => S j == s) = (List.range n).filter (ch K S n s) := rfl

/-- What Variables hands back is as long as there are chosen places. -/
theorem len_ok {K V : Nat → ByteArray} {S : Nat → Int} {n : Nat} {s : Int} {ts : List (List UInt8)} (h : ts.Perm ((lasts (kb K) n fun j => S j == s).map (kb V))) : ts.length = cntTo (ch K S n s) n := by
  rw [h.length_eq, List.length_map, ch_lasts, cntTo_eq]

theorem filter_getD_len {α : Type} [BEq α] [LawfulBEq α] (ts : List α) (d x : α) : cntTo (fun j => ts.getD j d == x) ts.length = (ts.filter (· == x)).length := by
  rw [cntTo_eq]
  have e : ts = (List.range ts.length).map fun j => ts.getD j d := by
    apply List.ext_getElem (by simp)
    intro i h1 h2
    simp [List.getD, List.getElem?_eq_getElem h1]
  have : (ts.filter (· == x)).length = (((List.range ts.length).map fun j => ts.getD j d).filter (· == x)).length := by rw [← e]
  rw [this, List.filter_map, List.length_map]
  rfl

/-- .. and holds each variable as often as it is chosen. -/
theorem count_ok {K V : Nat → ByteArray} {S : Nat → Int} {n : Nat} {s : Int} {ts : List (List UInt8)} (h : ts.Perm ((lasts (kb K) n fun j => S j == s).map (kb V))) (x : List UInt8) :
    cntTo (fun j => ch K S n s j && (kb V j == x)) n = cntTo (fun j => ts.getD j [] == x) ts.length := by
  rw [filter_getD_len, (h.filter _).length_eq, List.filter_map, List.length_map, ch_lasts, List.filter_filter, cntTo_eq]
  congr 1
  apply List.filter_congr
  intro j _
  show (ch K S n s j && (kb V j == x)) = ((kb V j == x) && ch K S n s j)
  rw [Bool.and_comm]

/-- What is handed back, its strings by their index. -/
theorem Listed.get {K V : Nat → ByteArray} {S : Nat → Int} {n : Nat} {s : Int} {w w' : World} {e : Ending} (h : Listed K S V n s w w' e) :
    ∃ (a : Option Addr) (c len : Nat) (T : Nat → ByteArray), e = .returned (.slice a len c) ∧ Row w' a len (fun i => .string (T i)) ∧ len = cntTo (ch K S n s) n ∧ (∀ i, i + 1 < len → kb T i ≤ kb T (i + 1)) ∧
      (∀ x, cntTo (fun j => ch K S n s j && (kb V j == x)) n = cntTo (fun j => kb T j == x) len) ∧ (∀ i, i < len → ∃ j, j < n ∧ (T i).size = (V j).size) ∧ Below w.heap.size w w' := by
  obtain ⟨a, c, ts, rfl, hp, hs, hr, hb⟩ := h
  refine ⟨a, c, ts.length, fun i => ⟨(ts.getD i []).toArray⟩, rfl, hr, len_ok hp, fun i hi => ?_, fun x => ?_, fun i hi => ?_, hb⟩
  · have := List.pairwise_iff_getElem.1 hs i (i + 1) (by omega) hi (by omega)
    simpa [kb, List.getD, List.getElem?_eq_getElem hi, List.getElem?_eq_getElem (show i < ts.length by omega)] using this
  · rw [count_ok hp x]
    simp [kb]
  · have hm : ts.getD i [] ∈ (lasts (kb K) n fun j => S j == s).map (kb V) := hp.mem_iff.1 (by simp [List.getD, List.getElem?_eq_getElem hi])
    obtain ⟨j, hj, he⟩ := List.mem_map.1 hm
    refine ⟨j, (mem_lasts.1 hj).1, ?_⟩
    show (ts.getD i []).toArray.size = _
    rw [List.size_toArray, ← he]
    simp [kb]

theorem str_yes {x y : ByteArray} (h : (x.toList == y.toList) = true) : x.data.toList = y.data.toList := by
  rw [ByteArray.toList_eq, ByteArray.toList_eq] at h
  exact eq_of_beq h
theorem str_no {x y : ByteArray} (h : (x.toList == y.toList) = false) : ¬ x.data.toList = y.data.toList := by
  rw [ByteArray.toList_eq, ByteArray.toList_eq] at h
  exact beq_eq_false_iff_ne.1 h

theorem mark_no {p : Nat → Bool} {k : Nat} (h : p k = false) (j : Nat) : (decide (j < k) && p j) = (decide (j < k + 1) && p j) := by
  by_cases e : j = k
  · subst e; simp [h]
  · by_cases e2 : j < k
    · rw [decide_eq_true e2, decide_eq_true (show j < k + 1 by omega)]
    · rw [decide_eq_false e2, decide_eq_false (show ¬ j < k + 1 by omega)]

theorem mark_yes {p : Nat → Bool} {k n : Nat} (h : p k = true) : ∀ j, j < n → (if j = k then Value.bool true else .bool (decide (j < k) && p j)) = .bool (decide (j < k + 1) && p j) := by
  intro j _
  by_cases e : j = k
  · subst e; simp [h]
  · rw [if_neg e]
    by_cases e2 : j < k
    · rw [decide_eq_true e2, decide_eq_true (show j < k + 1 by omega)]
    · rw [decide_eq_false e2, decide_eq_false (show ¬ j < k + 1 by omega)]

theorem rowIs_drewN {w : World} {b : Nat} {t : TypeId} {n : Nat} {f : Nat → Value} (h : w.rowIs b t n f) (m : Nat) : (w.drewN m).rowIs b t n f := h

theorem not_later {α : Type} (f : Nat → α) (k m : Nat) (h : ∀ j, k < j → j < m → ¬ f j = f k) (h2 : ¬ f m = f k) : ∀ j, k < j → j < m + 1 → ¬ f j = f k := by
  intro j h1 h3
  by_cases e : j = m
  · subst e; exact h2
  · exact h j h1 (by omega)

set_option maxRecDepth 100000 in
set_option maxHeartbeats 4000000 in
theorem law3_in (a b c : Option Addr) (n n' m' l' : Nat) (K V : Nat → ByteArray) (S : Nat → Int) (s : Int) (w : World) (hn : n ≤ 4096)
    (hK : Hid (Row w a n (fun i => .string (K i)))) (hS : Hid (Row w b n (fun i => .int .i64 (S i)))) (hV : Hid (Row w c n (fun i => .string (V i)))) (hlen : Hid (∀ i, i < n → (K i).size ≤ maxLen)) (hlenV : Hid (∀ i, i < n → (V i).size ≤ maxLen)) :
    Calls Try.prog 3 #[.slice a n n', .slice b n m', .slice c n l', .int .i64 s] w fun e w' => e = .returned (.bool true) ∧ Below w.heap.size w w' := by
  have hn0 : ((n : Int) != (n : Int)) = false := by simp
  go_enter Try.func3, Try.ntmps3
  go_wp2_with fail
  refine (bytes3_any a b c n n' n m' n l' K V s w (by omega) (by omega) (by omega) hK hV).mono ?_
  rintro e w1 ⟨⟨r, rfl⟩, hw1⟩
  obtain rfl : w1 = w := hw1
  simp only []
  cases r
  · go_wp2
    go_ret
    exact ⟨rfl, Below.refl _ _⟩
  go_wp2_with fail
  refine (foot_any a b c n n' n m' n l' K V w1 hn hn hn hK hV).mono ?_
  rintro e w2 ⟨⟨t, rfl⟩, rfl⟩
  simp only []
  by_cases ht : 1048576 < t
  · go_wp2
    go_ret
    exact ⟨rfl, Below.refl _ _⟩
  go_wp2_with fail
  refine (copyS_any a n n' K _ hn hK).mono ?_
  rintro e w3 ⟨a1, c1, rfl, hr1, hb1⟩
  have HS3 := hid (hS.out.later hb1)
  have HV3 := hid (hV.out.later hb1)
  have HK3 := hid hr1
  clear hS hV hK hr1
  simp only []
  go_wp2_with fail
  refine (copyI_any b n m' S _ hn HS3).mono ?_
  rintro e w4 ⟨a2, c2, rfl, hr2, hb2⟩
  have HV4 := hid (HV3.out.later hb2)
  have HK4 := hid (HK3.out.later hb2)
  have HS4 := hid hr2
  clear HS3 HV3 HK3 hr2
  simp only []
  go_wp2_with fail
  refine (copyS_any c n l' V _ hn HV4).mono ?_
  rintro e w5 ⟨a3, c3, rfl, hr3, hb3⟩
  have HK5 := hid (HK4.out.later hb3)
  have HS5 := hid (HS4.out.later hb3)
  have HV5 := hid hr3
  clear HS4 HV4 HK4 hr3
  simp only []
  go_wp2_with fail
  refine (newOrigins_any a1 a2 a3 n c1 c2 c3 K V S w5 hn HK5 HS5 HV5 hlen).mono ?_
  rintro e w6 ⟨rfl, ⟨D, hown, htell⟩, hb4⟩
  have HO := hid hown
  have HT := hid htell
  have HK6 := hid (HK5.out.later hb4)
  have HS6 := hid (HS5.out.later hb4)
  have HV6 := hid (HV5.out.later hb4)
  have HB6 := hid (hb1.trans ((hb2.mono hb1.size).trans ((hb3.mono (Nat.le_trans hb1.size hb2.size)).trans (hb4.mono (Nat.le_trans hb1.size (Nat.le_trans hb2.size hb3.size))))))
  clear hown htell HK5 HS5 HV5 hb1 hb2 hb3 hb4
  simp only []
  go_wp2_with fail
  have HOW := hid (HO.out.alloc (.cells #[.string ByteArray.empty, .map (some (w5.heap.size + 1)), .slice none 0 0] 30))
  have HB7 := hid (show Below w6.heap.size w6 (w6.alloc (.cells #[.string ByteArray.empty, .map (some (w5.heap.size + 1)), .slice none 0 0] 30)) from (Below.refl _ _).alloc (Nat.le_refl _) _)
  refine (variables_any (w5.heap.size + 1) n s K V S D _ hn HOW HT).mono ?_
  intro e w8 hl8
  obtain ⟨a9, c9, len, T, rfl, hr9, hlen9, hsorted, hcount, hmem, hb9⟩ := hl8.get
  have HSz : Hid (∀ i, i < len → (T i).size ≤ 9223372036854775807) := fun i hi => by
    obtain ⟨j, hj, e⟩ := hmem i hi
    rw [e]
    have := hlenV.out j hj
    unfold maxLen at this
    exact this
  have HB8 : Below w6.heap.size w6 w8 := HB7.out.trans (hb9.mono HB7.out.size)
  have HK8 := hid (HK6.out.later HB8)
  have HS8 := hid (HS6.out.later HB8)
  have HV8 := hid (HV6.out.later HB8)
  have HT8 := hid hr9
  have HLen := hid hlen9
  have HSort := hid hsorted
  have HCount := hid hcount
  have HBW := hid (HB6.out.trans (HB8.mono HB6.out.size))
  have hlle : len ≤ n := by rw [hlen9]; exact cntTo_le _ _
  clear hl8 hr9 hlen9 hsorted hcount hmem hb9 hlenV HB8 HO HT HK6 HS6 HV6 HB6 HOW HB7 hlen
  have hmk := run_make_row' (P := Try.prog) 34 4 (.bool false) 1 Try.underlying34 Try.info4 rfl .i64 .i64 n (by omega) (by omega)
  simp only []
  go_wp2
  clear hmk
  go_loopw [13, 14] (fun mm i wr => ∃ k q : Nat, k ≤ n ∧ i = .int .i64 k ∧ Hid (q = cntTo (ch K S n s) k) ∧ q ≤ k ∧ mm = .int .i64 q ∧ wr.rowIs w8.heap.size 4 n (fun j => .bool (decide (j < k) && ch K S n s j)) ∧ Below w8.heap.size w8 wr) (fun _ i _ => n - (intOf i).toNat)
  case atStart => exact ⟨0, 0, Nat.zero_le _, rfl, rfl, Nat.le_refl _, rfl, (World.rowIs_made w8 (.bool false) n 4).congr (by simp), (Below.refl _ _).alloc (Nat.le_refl _) _⟩
  case round =>
    obtain ⟨k, q, hk, rfl, hq, hqk, rfl, hrow, hbel⟩ := hrel
    by_cases hlt : k < n
    · obtain ⟨b2, o2, rfl, hc2⟩ := HS8.out (by omega)
      have g2 := cell_later hbel (hc2 k hlt)
      clear hc2
      cases hsrc : (S k != s) with
      | true =>
        have HR := hid hrow
        clear hrow
        go_wp2
        go_roundw
        case rel => exact ⟨k + 1, q, by omega, by go_num, hid (by rw [hq.out, cntTo_no (ch_src hsrc)]), by omega, rfl, HR.out.congr (fun j hj => congrArg Value.bool (mark_no (ch_src hsrc) j)), hbel⟩
        case measure => simp [intOf]; omega
      | false =>
        go_wp2
        obtain ⟨wo, rfl⟩ : ∃ wo : World, wo = wr := ⟨_, rfl⟩
        go_loopw [15, 16] (fun f j wr => ∃ m : Nat, k + 1 ≤ m ∧ m ≤ n ∧ j = .int .i64 m ∧ f = .bool true ∧ Hid (∀ j, k < j → j < m → ¬ kb K j = kb K k) ∧ wr.rowIs w8.heap.size 4 n (fun j => .bool (decide (j < k) && ch K S n s j)) ∧ Below w8.heap.size w8 wr) (fun _ j _ => n - (intOf j).toNat)
        case atStart => exact ⟨k + 1, by omega, by omega, by go_num, rfl, fun j h1 h2 => by omega, hrow, hbel⟩
        case round =>
          obtain ⟨m, hm1, hm2, rfl, rfl, hno, hrow2, hbel2⟩ := hrel
          clear hrow hbel g2
          have HR := hid hrow2
          by_cases hlt2 : m < n
          · clear hrow2
            obtain ⟨b1, o1, rfl, hc1⟩ := HK8.out (by omega)
            have g1 := cell_later hbel2 (hc1 m hlt2)
            have g3 := cell_later hbel2 (hc1 k hlt)
            clear hc1
            have i1 : (m : Int) < (n : Int) := by omega
            have i2 : (k : Int) < (n : Int) := by omega
            go_wp2
            go_quiet (fail)
            go_wp2
            · have hy : ((K m).toList == (K k).toList) = true := by assumption
              have hf : ch K S n s k = false := ch_no hlt (by omega) hlt2 (kb_yes hy)
              go_roundw
              case rel => exact ⟨k + 1, q, by omega, by go_num, hid (by rw [hq.out, cntTo_no hf]), by omega, rfl, rowIs_drewN (HR.out.congr (fun j hj => congrArg Value.bool (mark_no hf j))) _, below_drewN hbel2 _⟩
              case measure => simp [intOf]; omega
            · have hy : ((K m).toList == (K k).toList) = false := by assumption
              go_roundw
              case rel => exact ⟨m + 1, by omega, by omega, by go_num, rfl, hid (not_later (kb K) k m hno.out (kb_no hy)), rowIs_drewN HR.out _, below_drewN hbel2 _⟩
              case measure => simp [intOf]; omega
          · obtain rfl : m = n := by omega
            have hf : Hid (ch K S m s k = true) := ch_yes hlt hsrc hno.out
            have fr := hrow2.frozen k
            have cl := hrow2.cell hlt
            have HR2 := hid (hrow2.set k (.bool true))
            have HB2 := hid (hbel2.setCell (p := ⟨w8.heap.size, k, none⟩) (Nat.le_refl _) (.bool true))
            clear hrow2
            go_wp2
            go_roundw
            case rel => exact ⟨k + 1, q + 1, by omega, by go_num, hid (by rw [hq.out, cntTo_yes hf.out]), by omega, by go_num, HR2.out.congr (mark_yes hf.out), HB2.out⟩
            case measure => simp [intOf]; omega
    · obtain rfl : k = n := by omega
      have hrowN := hid (hrow.congr (g := fun j => .bool (ch K S k s j)) (fun j hj => by rw [decide_eq_true hj, Bool.true_and]))
      have hql : q = len := by rw [hq.out, ← HLen.out]
      have hqb : ((len : Int) != (q : Int)) = false := by rw [hql]; simp
      clear hrow hql
      obtain ⟨wo, rfl⟩ : ∃ wo : World, wo = wr := ⟨_, rfl⟩
      go_wp2
      go_loopw [17] (fun i wr => ∃ j : Nat, 1 ≤ j ∧ (j ≤ len ∨ j = 1) ∧ i = .int .i64 j ∧ Hid (wr.rowIs w8.heap.size 4 k (fun j => .bool (ch K S k s j))) ∧ Below w8.heap.size w8 wr) (fun i _ => len - (intOf i).toNat)
      case atStart => exact ⟨1, by omega, by omega, rfl, hrowN, hbel⟩
      case round =>
        obtain ⟨j, hj1, hj2, rfl, hrowJ, hbelJ⟩ := hrel
        clear hrowN hbel
        by_cases hlt1 : j < len
        · obtain ⟨b9, o9, rfl, hc9⟩ := HT8.out (by omega)
          obtain ⟨j0, rfl⟩ : ∃ j0, j = j0 + 1 := ⟨j - 1, by omega⟩
          have g1 := cell_later hbelJ (hc9 j0 (by omega))
          have g2 := cell_later hbelJ (hc9 (j0 + 1) hlt1)
          have HX := hid (fun wx : World => strLeq_yes (T j0) (T (j0 + 1)) wx (HSz.out j0 (by omega)) (HSz.out (j0 + 1) hlt1) (HSort.out j0 hlt1))
          clear hc9
          have i1 : (j0 : Int) < (len : Int) := by omega
          have i2 : (j0 : Int) + 1 < (len : Int) := by omega
          go_wp2
          go_quiet ((go_at_call 13; exact Calls.quiet_of (HX.out _)))
          go_wp2
          go_roundw
          case rel => exact ⟨j0 + 1 + 1, by omega, by omega, by go_num, rowIs_drewN hrowJ.out _, below_drewN hbelJ _⟩
          case measure => simp [intOf]; omega
        · have hge : (len : Int) ≤ (j : Int) := by omega
          obtain ⟨wj, rfl⟩ : ∃ wj : World, wj = wr := ⟨_, rfl⟩
          go_wp2
          go_loopw [18] (fun i wr => ∃ i0 : Nat, i0 ≤ k ∧ i = .int .i64 i0 ∧ Hid (wr.rowIs w8.heap.size 4 k (fun j => .bool (ch K S k s j))) ∧ Below w8.heap.size w8 wr) (fun i _ => k - (intOf i).toNat)
          case atStart => exact ⟨0, by omega, rfl, hrowJ, hbelJ⟩
          case round =>
            obtain ⟨i0, hi0, rfl, hrowI, hbelI⟩ := hrel
            clear hrowJ hbelJ
            by_cases hlt2 : i0 < k
            · have gch := hrowI.out.cell hlt2
              cases hchi : ch K S k s i0 with
              | false =>
                rw [hchi] at gch
                go_wp2
                go_roundw
                case rel => exact ⟨i0 + 1, by omega, by go_num, hrowI, hbelI⟩
                case measure => simp [intOf]; omega
              | true =>
                rw [hchi] at gch
                obtain ⟨wi, rfl⟩ : ∃ wi : World, wi = wr := ⟨_, rfl⟩
                obtain ⟨b3, o3, rfl, hc3⟩ := HV8.out (by omega)
                have HC3 := hid hc3
                clear hc3
                go_wp2
                clear gch
                go_loopw [19, 20] (fun q1 i wr => ∃ j1 p1 : Nat, j1 ≤ k ∧ i = .int .i64 j1 ∧ Hid (p1 = cntTo (fun j => ch K S k s j && (kb V j == kb V i0)) j1) ∧ p1 ≤ j1 ∧ q1 = .int .i64 p1 ∧ Hid (wr.rowIs w8.heap.size 4 k (fun j => .bool (ch K S k s j))) ∧ Below w8.heap.size w8 wr) (fun _ i _ => k - (intOf i).toNat)
                case atStart => exact ⟨0, 0, by omega, rfl, rfl, by omega, rfl, hrowI, hbelI⟩
                case round =>
                  obtain ⟨j1, p1, hj1', rfl, hp1, hp1', rfl, hrowA, hbelA⟩ := hrel
                  clear hrowI hbelI
                  by_cases hlt3 : j1 < k
                  · have gA := hrowA.out.cell hlt3
                    have gB := cell_later hbelA (HC3.out j1 hlt3)
                    have gC := cell_later hbelA (HC3.out i0 hlt2)
                    have i1 : (j1 : Int) < (k : Int) := by omega
                    have i2 : (i0 : Int) < (k : Int) := by omega
                    cases hcj : ch K S k s j1 with
                    | false =>
                      rw [hcj] at gA
                      go_wp2
                      go_quiet (fail)
                      go_wp2
                      go_roundw
                      case rel => exact ⟨j1 + 1, p1, by omega, by go_num, hid (by rw [hp1.out, cntTo_no (by rw [hcj, Bool.false_and])]), by omega, rfl, rowIs_drewN hrowA.out _, below_drewN hbelA _⟩
                      case measure => simp [intOf]; omega
                    | true =>
                      rw [hcj] at gA
                      go_wp2
                      go_quiet (fail)
                      go_wp2
                      · have hy : ((V j1).toList == (V i0).toList) = true := by assumption
                        go_roundw
                        case rel => exact ⟨j1 + 1, p1 + 1, by omega, by go_num, hid (by rw [hp1.out, cntTo_yes (by rw [hcj, Bool.true_and]; exact beq_iff_eq.2 (str_yes hy))]), by omega, by go_num, rowIs_drewN hrowA.out _, below_drewN hbelA _⟩
                        case measure => simp [intOf]; omega
                      · have hy : ((V j1).toList == (V i0).toList) = false := by assumption
                        go_roundw
                        case rel => exact ⟨j1 + 1, p1, by omega, by go_num, hid (by rw [hp1.out, cntTo_no (by rw [hcj, Bool.true_and]; exact beq_eq_false_iff_ne.2 (str_no hy))]), by omega, rfl, rowIs_drewN hrowA.out _, below_drewN hbelA _⟩
                        case measure => simp [intOf]; omega
                  · obtain rfl : j1 = k := by omega
                    obtain ⟨wa, rfl⟩ : ∃ wa : World, wa = wr := ⟨_, rfl⟩
                    go_wp2
                    go_loopw [21, 22] (fun q2 i wr => ∃ j2 p2 : Nat, j2 ≤ len ∧ i = .int .i64 j2 ∧ Hid (p2 = cntTo (fun j => kb T j == kb V i0) j2) ∧ p2 ≤ j2 ∧ q2 = .int .i64 p2 ∧ Hid (wr.rowIs w8.heap.size 4 j1 (fun j => .bool (ch K S j1 s j))) ∧ Below w8.heap.size w8 wr) (fun _ i _ => len - (intOf i).toNat)
                    case atStart => exact ⟨0, 0, by omega, rfl, rfl, by omega, rfl, hrowA, hbelA⟩
                    case round =>
                      obtain ⟨j2, p2, hj2', rfl, hp2, hp2', rfl, hrowB, hbelB⟩ := hrel
                      clear hrowA hbelA
                      by_cases hlt4 : j2 < len
                      · obtain ⟨b9, o9, rfl, hc9⟩ := HT8.out (by omega)
                        have gB := cell_later hbelB (hc9 j2 hlt4)
                        have gC := cell_later hbelB (HC3.out i0 hlt2)
                        have i1 : (j2 : Int) < (len : Int) := by omega
                        have i2 : (i0 : Int) < (j1 : Int) := by omega
                        clear hc9
                        go_wp2
                        go_quiet (fail)
                        go_wp2
                        · have hy : ((T j2).toList == (V i0).toList) = true := by assumption
                          go_roundw
                          case rel => exact ⟨j2 + 1, p2 + 1, by omega, by go_num, hid (by rw [hp2.out, cntTo_yes (p := fun j => kb T j == kb V i0) (k := j2) (beq_iff_eq.2 (str_yes hy))]), by omega, by go_num, rowIs_drewN hrowB.out _, below_drewN hbelB _⟩
                          case measure => simp [intOf]; omega
                        · have hy : ((T j2).toList == (V i0).toList) = false := by assumption
                          go_roundw
                          case rel => exact ⟨j2 + 1, p2, by omega, by go_num, hid (by rw [hp2.out, cntTo_no (p := fun j => kb T j == kb V i0) (k := j2) (beq_eq_false_iff_ne.2 (str_no hy))]), by omega, rfl, rowIs_drewN hrowB.out _, below_drewN hbelB _⟩
                          case measure => simp [intOf]; omega
                      · obtain rfl : j2 = len := by omega
                        have hpp : p1 = p2 := by rw [hp1.out, hp2.out]; exact HCount.out _
                        have hpb : ((p1 : Int) != (p2 : Int)) = false := by rw [hpp]; simp
                        clear hpp
                        go_wp2
                        go_roundw
                        case rel => exact ⟨i0 + 1, by omega, by go_num, hrowB, hbelB⟩
                        case measure => simp [intOf]; omega
            · go_wp2
              go_ret
              exact ⟨rfl, HBW.out.trans (hbelI.mono HBW.out.size)⟩

end Go.Proofs.Qxb6601034a
