/-
  THE WALKS of seat b6600850a, fifth part: kids whatever the node; the two thin wrappers; the bound on lengths.
-/
import Derived.Test.Qxb6600850aW4
namespace Go.Proofs.Qxb6600850a
open Go.RowKit Plain
set_option linter.unusedVariables false

/-- Where the choice starts. -/
def stOf (F N home t : Int) : Int := if 0 ≤ t then t - F else home % N

/-- kids, whatever the node: how many are marked decides. -/
theorem kids_any (d home : Int) (n v T Hb : Nat) (tw : Nat → Int) (h : Nat → Bool) (w : World) (hd : 1 ≤ d) (hd2 : d ≤ 9223372036854775807) (hn : n ≤ 65536) (hv : v < n) (hh : 0 ≤ home) (hh2 : home < n)
    (hT : w.rowIs T 3 n (fun i => .int .i64 (tw i))) (hW : Ways d n tw) (hH : w.rowIs Hb 4 n (fun i => .bool (h i))) :
    Calls Try.prog 28 #[.agg #[.int .i64 d, .int .i64 n, .slice none 0 0, .slice none 0 0, .slice none 0 0, .int .i64 home, .slice (some ⟨T, 0, none⟩) n n], .int .i64 v, .slice (some ⟨Hb, 0, none⟩) n n] w fun e w' =>
      ∃ r, e = .returned r ∧ KidsRes (cnt h (kFirst d n v) (stOf (kFirst d n v) (kEnd d n v - kFirst d n v) home (tw v)) (kEnd d n v - kFirst d n v) (kEnd d n v - kFirst d n v).toNat) ((kEnd d n v - kFirst d n v) / 2 + 1).toNat r ∧ Below w.heap.size w w' := by
  have hr := range d n v hd (by omega) (by omega)
  have hch : Hid (∀ w, Calls Try.prog 30 #[.agg #[.int .i64 d, .int .i64 n], .int .i64 v] w fun e w' => e = .returned (.tuple #[.int .i64 (kFirst d n v), .int .i64 (kEnd d n v)]) ∧ Below w.heap.size w w') :=
    fun w => children_any d n v w hd hd2 (by omega) (by omega) (by omega) (by omega)
  have hc := fun c h1 h2 e => child_in d n v c hd (by omega) h1 h2 e
  generalize kFirst d n v = F at *
  generalize kEnd d n v = E at *
  by_cases h0 : E - F = 0
  · refine (kids_none d F E home n v T Hb w hch (by omega) (by omega) h0).mono ?_
    rintro e w' ⟨rfl, hb⟩
    refine ⟨_, rfl, .inl ⟨?_, rfl⟩, hb⟩
    rw [h0]; exact (by decide : (0 : Nat) < (0 / 2 + 1 : Int).toNat)
  · have hw := hW v hv
    obtain ⟨need, hneed⟩ : ∃ need : Nat, (E - F) / 2 + 1 = (need : Int) := Int.eq_ofNat_of_zero_le (by omega)
    have hst : Hid ((tw v < 0 ∧ home % (E - F) = stOf F (E - F) home (tw v)) ∨ (0 ≤ tw v ∧ tw v < n ∧ tw v - F = stOf F (E - F) home (tw v))) := by
      unfold stOf
      by_cases ht : 0 ≤ tw v
      · exact .inr ⟨ht, by omega, by rw [if_pos ht]⟩
      · exact .inl ⟨by omega, by rw [if_neg ht]⟩
    have hs : 0 ≤ stOf F (E - F) home (tw v) ∧ stOf F (E - F) home (tw v) < E - F := by
      unfold stOf
      by_cases ht : 0 ≤ tw v
      · rw [if_pos ht]
        rcases hw with hw | ⟨w1, w2, w3⟩
        · omega
        · have := hc (tw v) w1 w2 w3
          omega
      · rw [if_neg ht]
        exact ⟨Int.emod_nonneg _ h0, Int.emod_lt_of_pos _ (by omega)⟩
    have key := kids_some d F E home (E - F) (stOf F (E - F) home (tw v)) n v T Hb need (tw v) h w hch (by omega) (by omega) (by omega) hn hv hh hh2 rfl hneed hs.1 hs.2 hst hT.lt hH.lt (hT.cell hv) (fun i hi => hH.cell hi)
    have e : ((E - F) / 2 + 1).toNat = need := by omega
    rw [e]
    exact key

set_option maxHeartbeats 400000 in
theorem zzKids_any (d home : Int) (n v T Hb : Nat) (tw : Nat → Int) (h : Nat → Bool) (w : World) (hd : 1 ≤ d) (hd2 : d ≤ 9223372036854775807) (hn : n ≤ 65536) (hv : v < n) (hh : 0 ≤ home) (hh2 : home < n)
    (hT : w.rowIs T 3 n (fun i => .int .i64 (tw i))) (hW : Ways d n tw) (hH : w.rowIs Hb 4 n (fun i => .bool (h i))) :
    Calls Try.prog 15 #[.int .i64 d, .int .i64 n, .int .i64 home, .slice (some ⟨T, 0, none⟩) n n, .int .i64 v, .slice (some ⟨Hb, 0, none⟩) n n] w fun e w' =>
      ∃ r, e = .returned r ∧ KidsRes (cnt h (kFirst d n v) (stOf (kFirst d n v) (kEnd d n v - kFirst d n v) home (tw v)) (kEnd d n v - kFirst d n v) (kEnd d n v - kFirst d n v).toNat) ((kEnd d n v - kFirst d n v) / 2 + 1).toNat r ∧ Below w.heap.size w w' := by
  have hk := hid (fun o : Obj => kids_any d home n v T Hb tw h (w.alloc o) hd hd2 hn hv hh hh2 (hT.alloc _) hW (hH.alloc _))
  clear hT hW hH
  generalize cnt h (kFirst d n v) (stOf (kFirst d n v) (kEnd d n v - kFirst d n v) home (tw v)) (kEnd d n v - kFirst d n v) (kEnd d n v - kFirst d n v).toNat = C at *
  generalize ((kEnd d n v - kFirst d n v) / 2 + 1).toNat = need at *
  go_enter Try.func15, Try.ntmps15
  go_wp2_with fail
  refine (hk.out _).mono ?_
  rintro e w1 ⟨r, rfl, hres, hb⟩
  have hR := hid hres
  clear hres
  simp only []
  go_wp2
  go_ret
  exact ⟨_, rfl, hR.out, ((Below.refl _ _).alloc (Nat.le_refl _) _).trans (hb.mono (by simp))⟩

set_option maxHeartbeats 400000 in
theorem zzToward_any (d : Int) (n : Nat) (home : Int) (w : World) (hd : 1 ≤ d) (hd2 : d ≤ 9223372036854775807) (hn : n ≤ 65536) (hh : 0 ≤ home) (hh2 : home < n) :
    Calls Try.prog 14 #[.int .i64 d, .int .i64 n, .int .i64 home] w fun e w' => e = .returned (.slice (some ⟨w.heap.size + 1, 0, none⟩) n n) ∧
      (∃ tw, w'.rowIs (w.heap.size + 1) 3 n (fun i => .int .i64 (tw i)) ∧ Ways d n tw) ∧ Below w.heap.size w w' := by
  go_enter Try.func14, Try.ntmps14
  go_wp2_with fail
  refine (toward_any d n home _ hd hd2 hn hh hh2).mono ?_
  rintro e w1 ⟨rfl, hx, hb⟩
  have hX := hid hx
  clear hx
  simp only []
  go_wp2
  go_ret
  exact ⟨rfl, hX.out, hb⟩

/-! ### the bound on lengths -/
set_option maxHeartbeats 400000 in
theorem bytes_ok (d s home v : Int) (a b : Option Addr) (l c l' c' : Nat) (w : World) (h : l + l' ≤ 1048576) :
    Calls Try.prog 17 #[.int .i64 d, .int .i64 s, .int .i64 home, .int .i64 v, .slice a l c, .slice b l' c'] w fun e w' => e = .returned (.bool true) ∧ w' = w := by
  go_enter Try.func17, Try.ntmps17
  go_wp2
  go_ret
  exact ⟨rfl, rfl⟩

set_option maxHeartbeats 400000 in
theorem bytes_no (d s home v : Int) (a b : Option Addr) (l c l' c' : Nat) (w : World) (hl : l ≤ 9223372036854775807) (hl' : l' ≤ 9223372036854775807) (h : 1048576 < l + l') :
    Calls Try.prog 17 #[.int .i64 d, .int .i64 s, .int .i64 home, .int .i64 v, .slice a l c, .slice b l' c'] w fun e w' => e = .returned (.bool false) ∧ w' = w := by
  go_enter Try.func17, Try.ntmps17
  go_wp2
  all_goals
    go_ret
    exact ⟨rfl, rfl⟩

end Go.Proofs.Qxb6600850a
