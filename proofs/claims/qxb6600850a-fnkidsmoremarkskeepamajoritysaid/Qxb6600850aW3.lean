/-
  THE WALKS of seat b6600850a, third part: toward.
-/
import Derived.Test.Qxb6600850aW2
namespace Go.Proofs.Qxb6600850a
open Go.RowKit Plain
set_option linter.unusedVariables false

/-- What 'toward' holds: of each position -1, or a child of it. -/
def Ways (d : Int) (n : Nat) (tw : Nat → Int) : Prop := ∀ i, i < n → tw i = -1 ∨ (1 ≤ tw i ∧ tw i < n ∧ (tw i - 1) / d = (i : Int))

theorem Ways.set {d : Int} {n : Nat} {tw : Nat → Int} (h : Ways d n tw) (p : Nat) (c : Int) (h1 : 1 ≤ c) (h2 : c < n) (e : (c - 1) / d = (p : Int)) : Ways d n (fun j => if j = p then c else tw j) := by
  intro i hi
  by_cases ei : i = p
  · subst ei; simp only [if_true]; exact .inr ⟨h1, h2, e⟩
  · simp only [if_neg ei]; exact h i hi

set_option maxHeartbeats 400000 in
theorem toward_any (d : Int) (n : Nat) (home : Int) (w : World) (hd : 1 ≤ d) (hd2 : d ≤ 9223372036854775807) (hn : n ≤ 65536) (hh : 0 ≤ home) (hh2 : home < n) :
    Calls Try.prog 27 #[.agg #[.int .i64 d, .int .i64 n], .int .i64 home] w fun e w' => e = .returned (.slice (some ⟨w.heap.size + 1, 0, none⟩) n n) ∧
      (∃ tw, w'.rowIs (w.heap.size + 1) 3 n (fun i => .int .i64 (tw i)) ∧ Ways d n tw) ∧ Below w.heap.size w w' := by
  have hmk := run_make_row' (P := Try.prog) 27 3 (.int .i64 0) 8 Try.underlying27 Try.info3 rfl .i64 .i64 n (by omega) (by omega)
  go_enter Try.func27, Try.ntmps27
  go_wp2
  go_loopw [14] (fun i wr => ∃ k : Nat, k ≤ n ∧ i = .int .i64 k ∧ wr.rowIs (w.heap.size + 1) 3 n (fun j => if j < k then .int .i64 (-1) else .int .i64 0) ∧ Below (w.heap.size + 1) (w.alloc (.cells #[.int .i64 d, .int .i64 n] 42)) wr) (fun i _ => n - (intOf i).toNat)
  case atStart => 
    refine ⟨0, Nat.zero_le _, rfl, ?_, (Below.refl _ _).alloc (by simp) _⟩
    have := (World.rowIs_made (w.alloc (.cells #[.int .i64 d, .int .i64 n] 42)) (.int .i64 0) n 3)
    simp only [World.size_alloc] at this
    exact this.congr (by simp)
  case round =>
    obtain ⟨k, hk, rfl, hrow, hbel⟩ := hrel
    by_cases hlt : k < n
    · have hfr := hrow.frozen k
      have hcl := hrow.cell hlt
      have HR := hrow.set k (.int .i64 (-1))
      have HB := hbel.setCell (p := ⟨w.heap.size + 1, k, none⟩) (Nat.le_refl _) (.int .i64 (-1))
      clear hrow hbel
      go_wp2
      go_roundw
      case rel =>
        refine ⟨k + 1, by omega, by go_num, HR.congr ?_, HB⟩
        intro j hj
        by_cases e : j = k
        · subst e; simp
        · simp only [if_neg e]
          by_cases e2 : j < k
          · rw [if_pos e2, if_pos (by omega)]
          · rw [if_neg e2, if_neg (by omega)]
      case measure => simp [intOf]; omega
    · obtain rfl : k = n := by omega
      have hrow2 : wr.rowIs (w.heap.size + 1) 3 k (fun j => .int .i64 (-1)) := hrow.congr (by intro j hj; simp [hj])
      clear hrow
      obtain ⟨wo, rfl⟩ : ∃ wo : World, wo = wr := ⟨_, rfl⟩
      go_wp2
      go_loopw [7] (fun i wr => ∃ c : Int, 0 ≤ c ∧ c < k ∧ i = .int .i64 c ∧ (∃ tw, wr.rowIs (w.heap.size + 1) 3 k (fun j => .int .i64 (tw j)) ∧ Ways d k tw) ∧ Below (w.heap.size + 1) (w.alloc (.cells #[.int .i64 d, .int .i64 k] 42)) wr) (fun i _ => (intOf i).toNat)
      case atStart => exact ⟨home, hh, hh2, rfl, ⟨_, hrow2, fun _ _ => .inl rfl⟩, hbel⟩
      case round =>
        obtain ⟨c, hc0, hc1, rfl, ⟨tw, hrow, hways⟩, hbel⟩ := hrel
        by_cases hpos : 0 < c
        · have g1 : wr.cell? ⟨w.heap.size, 0, none⟩ = some (.int .i64 d) := by
            rw [hbel.cell (by simp)]; simp
          obtain ⟨p, hp⟩ : ∃ p : Nat, (c - 1) / d = (p : Int) := Int.eq_ofNat_of_zero_le (Int.ediv_nonneg (by omega) (by omega))
          have hpc : (p : Int) ≤ c - 1 := by rw [← hp]; exact Int.ediv_le_self _ (by omega)
          have hfr := hrow.frozen p
          have hcl := hrow.cell (i := p) (by omega)
          have HR := hrow.set p (.int .i64 c)
          have HB := hbel.setCell (p := ⟨w.heap.size + 1, p, none⟩) (Nat.le_refl _) (.int .i64 c)
          have HW := hways.set p c (by omega) hc1 hp
          clear hrow hbel hways
          go_wp2
          go_roundw
          case rel =>
            refine ⟨p, by omega, by omega, by go_num, ⟨_, HR.congr ?_, HW⟩, HB⟩
            intro j hj
            by_cases e : j = p <;> simp [e]
          case measure => simp [intOf]; omega
        · go_wp2
          go_ret
          refine ⟨rfl, ⟨tw, hrow, hways⟩, ?_⟩
          exact ((Below.refl _ _).alloc (Nat.le_refl _) _).trans (hbel.mono (Nat.le_succ _))

end Go.Proofs.Qxb6600850a
