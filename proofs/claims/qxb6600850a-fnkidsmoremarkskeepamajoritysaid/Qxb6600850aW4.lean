/-
  THE WALKS of seat b6600850a, fourth part: kids.
-/
import Derived.Test.Qxb6600850aW3
namespace Go.Proofs.Qxb6600850a
open Go.RowKit Plain
set_option linter.unusedVariables false

theorem hid {p : Prop} (h : p) : Hid p := h

theorem oneInt (k : IntKind) (c : Int) : ∀ u ∈ [Value.int k c], u.oneCell' = true := by intro u hu; simp at hu; subst hu; rfl

/-- What kids hands back where c of the children are marked and 'need' are wanted: nil, or a slice of just so many. -/
def KidsRes (c need : Nat) (r : Value) : Prop := (c < need ∧ r = .slice none 0 0) ∨ (need ≤ c ∧ ∃ a cap, r = .slice (some a) need cap)

/-- No children: nil. -/
theorem kids_none (d F E home : Int) (n v T Hb : Nat) (w : World)
    (hch : Hid (∀ w, Calls Try.prog 30 #[.agg #[.int .i64 d, .int .i64 n], .int .i64 v] w fun e w' => e = .returned (.tuple #[.int .i64 F, .int .i64 E]) ∧ Below w.heap.size w w'))
    (hF : 1 ≤ F) (hE : E ≤ 65536) (h0 : E - F = 0) :
    Calls Try.prog 28 #[.agg #[.int .i64 d, .int .i64 n, .slice none 0 0, .slice none 0 0, .slice none 0 0, .int .i64 home, .slice (some ⟨T, 0, none⟩) n n], .int .i64 v, .slice (some ⟨Hb, 0, none⟩) n n] w fun e w' =>
      e = .returned (.slice none 0 0) ∧ Below w.heap.size w w' := by
  go_enter Try.func28, Try.ntmps28
  go_wp2_with fail
  refine (hch.out _).mono ?_
  rintro e w1 ⟨rfl, hb⟩
  simp only []
  go_wp2
  go_ret
  exact ⟨rfl, ((Below.refl _ _).alloc (Nat.le_refl _) _).trans (hb.mono (by simp))⟩

set_option maxHeartbeats 1000000 in
theorem kids_some (d F E home N st : Int) (n v T Hb need : Nat) (t : Int) (h : Nat → Bool) (w : World)
    (hch : Hid (∀ w, Calls Try.prog 30 #[.agg #[.int .i64 d, .int .i64 n], .int .i64 v] w fun e w' => e = .returned (.tuple #[.int .i64 F, .int .i64 E]) ∧ Below w.heap.size w w'))
    (hF : 1 ≤ F) (hFE : F < E) (hE : E ≤ n) (hn : n ≤ 65536) (hv : v < n) (hh : 0 ≤ home) (hh2 : home < n)
    (hN : E - F = N) (hneed : N / 2 + 1 = (need : Int)) (hst0 : 0 ≤ st) (hst1 : st < N) (hst : Hid ((t < 0 ∧ home % N = st) ∨ (0 ≤ t ∧ t < n ∧ t - F = st)))
    (hT : T < w.heap.size) (hHb : Hb < w.heap.size) (hcT : w.cell? ⟨T, v, none⟩ = some (.int .i64 t)) (hcH : Hid (∀ i, i < n → w.cell? ⟨Hb, i, none⟩ = some (.bool (h i)))) :
    Calls Try.prog 28 #[.agg #[.int .i64 d, .int .i64 n, .slice none 0 0, .slice none 0 0, .slice none 0 0, .int .i64 home, .slice (some ⟨T, 0, none⟩) n n], .int .i64 v, .slice (some ⟨Hb, 0, none⟩) n n] w fun e w' =>
      ∃ r, e = .returned r ∧ KidsRes (cnt h F st N N.toNat) need r ∧ Below w.heap.size w w' := by
  have hmk : ∀ w : World, (Instr.makeSlice 27 (.int .i64 0) (.int .i64 (need : Int))).run Try.prog w = .ok (.slice (some ⟨w.heap.size, 0, none⟩) 0 need) (w.alloc (.cells (madeCells #[.int .i64 0] need) 3)) := by
    intro w
    obtain ⟨i, hi, hz0, hz1, hz2⟩ := info_parts Try.info3
    have := run_make (P := Try.prog) w 27 3 i (.int .i64 0) Try.underlying27 hi hz0 .i64 .i64 0 need (by omega) (by omega) (by rw [hz2]; omega) (by omega)
    rw [this, hz1]; simp [Value.cells]
  have hN0 : (N == 0) = false := beq_eq_false_iff_ne.2 (by omega)
  go_enter Try.func28, Try.ntmps28
  go_wp2_with fail
  refine (hch.out _).mono ?_
  rintro e w1 ⟨rfl, hb⟩
  have c5 : w1.cell? ⟨w.heap.size, 5, none⟩ = some (.int .i64 home) := by rw [hb.cell (by simp)]; simp
  have c6 : w1.cell? ⟨w.heap.size, 6, none⟩ = some (.slice (some ⟨T, 0, none⟩) n n) := by rw [hb.cell (by simp)]; simp
  have HB : Below w.heap.size w w1 := ((Below.refl _ _).alloc (Nat.le_refl _) _).trans (hb.mono (by simp))
  have cT := cell_later HB hcT
  simp only []
  clear hb hcT
  rcases hst.out with ⟨ht, e⟩ | ⟨ht, ht2, e⟩
  case' inl =>
    have hd : decide (0 ≤ t) = false := decide_eq_false (by omega)
    have HE := hid e
    clear e
    go_wp2
    rw [HE.out]
  case' inr =>
    have hd : decide (0 ≤ t) = true := decide_eq_true (by omega)
    have HE := hid e
    clear e
    go_wp2
    rw [HE.out]
  all_goals
    clear hmk c5 c6 cT
    go_loopw [13, 48] (fun pk j wr => ∃ k m : Nat, (k : Int) ≤ N ∧ j = .int .i64 k ∧ Hid (m = cnt h F st N k) ∧ m < need ∧ m ≤ k ∧ pk = .slice (some ⟨w1.heap.size, 0, none⟩) m need ∧
        (∃ xs, wr.ownsRow w1.heap.size 3 1 (.slice (some ⟨w1.heap.size, 0, none⟩) m need) m xs) ∧ Below w1.heap.size w1 wr) (fun _ j _ => (N - intOf j).toNat)
    case atStart => exact ⟨0, 0, by omega, rfl, rfl, by omega, by omega, rfl, ⟨_, World.ownsRow_made _ _ _ (Nat.le_refl _) (by unfold maxLen; omega) (by simp [size_madeCells])⟩, (Below.refl _ _).alloc (Nat.le_refl _) _⟩
    case round =>
      obtain ⟨k, m, hk, rfl, hm, hmn, hmk2, rfl, ⟨xs, hown⟩, hbel⟩ := hrel
      by_cases hlt : (k : Int) < N
      · obtain ⟨c, hc⟩ : ∃ c : Nat, F + (st + (k : Int)) % N = (c : Int) := Int.eq_ofNat_of_zero_le (by have := place F st N k (by omega); omega)
        have hcr := place F st N k (by omega)
        rw [hc] at hcr
        have hsucc : cnt h F st N (k + 1) = m + if h c = true then 1 else 0 := by
          show cnt h F st N k + _ = _
          rw [hc, Int.toNat_natCast, ← hm.out]
        have HS := hid hsucc
        clear hsucc
        have hcell : wr.cell? ⟨Hb, c, none⟩ = some (.bool (h c)) := cell_later (HB.trans (hbel.mono (HB.size))) (hcH.out c (by omega))
        have hmod0 : 0 ≤ (st + (k : Int)) % N := Int.emod_nonneg _ (by omega)
        have hmod1 : (st + (k : Int)) % N < N := Int.emod_lt_of_pos _ (by omega)
        cases hb : h c with
        | false =>
          rw [hb] at hcell
          go_wp2
          go_roundw
          case rel =>
            have e := HS.out
            rw [hb] at e
            exact ⟨k + 1, m, by omega, by go_num, hid (by rw [e]; simp), hmn, by omega, rfl, ⟨xs, hown⟩, hbel⟩
          case measure => simp [intOf]; omega
        | true =>
          rw [hb] at hcell
          obtain ⟨i0, hi, hz0, hz1, hz2⟩ := info_parts Try.info3
          have e := HS.out
          rw [hb] at e
          by_cases hful : m + 1 = need
          · have hfb : (((m + 1 : Nat) : Int) == (need : Int)) = true := beq_iff_eq.2 (by omega)
            go_wp2_with (at_builtin; refine wpList_append_fits _ rfl _ _ 27 rfl w1.heap.size 3 i0 1 Try.underlying27 hi hz1 w1.heap.size m need xs rfl (hown.alloc _) ⟨wr.heap.size, 0, none⟩ 1 1 [.int .i64 (c : Int)] rfl rfl (cell_one_new _ _ _) (oneInt _ _) (by omega) ?_)
            intro w2 hown2 hgrow
            have hb2 : Below w1.heap.size w1 w2 := (hbel.alloc hbel.size _).grown hgrow (by have := hbel.size; simp; omega) (by intro k hk; simp at hk; omega)
            have hcn : need ≤ cnt h F st N N.toNat := by
              refine Nat.le_trans ?_ (cnt_up h F st N (k + 1) N.toNat (by omega))
              rw [e]; simp; omega
            have HC := hid hcn
            clear hcn e hgrow hown2
            go_wp2
            go_ret
            exact ⟨_, rfl, .inr ⟨HC.out, _, _, rfl⟩, HB.trans (hb2.mono HB.size)⟩
          · have hfb : (((m + 1 : Nat) : Int) == (need : Int)) = false := beq_eq_false_iff_ne.2 (by omega)
            go_wp2_with (at_builtin; refine wpList_append_fits _ rfl _ _ 27 rfl w1.heap.size 3 i0 1 Try.underlying27 hi hz1 w1.heap.size m need xs rfl (hown.alloc _) ⟨wr.heap.size, 0, none⟩ 1 1 [.int .i64 (c : Int)] rfl rfl (cell_one_new _ _ _) (oneInt _ _) (by omega) ?_)
            intro w2 hown2 hgrow
            have hb2 : Below w1.heap.size w1 w2 := (hbel.alloc hbel.size _).grown hgrow (by have := hbel.size; simp; omega) (by intro k hk; simp at hk; omega)
            have HC := hid e
            have HO := hid hown2
            clear e hgrow hown2
            go_wp2
            go_roundw
            case rel =>
              have e := HC.out
              simp only [if_true] at e
              exact ⟨k + 1, m + 1, by omega, by go_num, hid e.symm, by omega, by omega, rfl, ⟨_, HO.out⟩, hb2⟩
            case measure => simp [intOf]; omega
      · have hcn : cnt h F st N N.toNat = m := by
          have : N.toNat = k := by omega
          rw [this]; exact hm.out.symm
        have HC := hid hcn
        clear hcn
        go_wp2
        go_ret
        exact ⟨_, rfl, .inl ⟨by rw [HC.out]; exact hmn, rfl⟩, HB.trans (hbel.mono HB.size)⟩

end Go.Proofs.Qxb6600850a
