/-
  THE WALKS of seat b6601034a, fourth part: Variables.
-/
import Derived.Test.Qxb6601034aW3
import Derived.Deep.DeepMust
namespace Go.Proofs.Qxb6601034a
open Go.RowKit Plain Go.Maps Go.Sort
set_option linter.unusedVariables false

/-- What Variables hands back: the last writes' variables of that source, sorted. -/
def Listed (K : Nat → ByteArray) (S : Nat → Int) (V : Nat → ByteArray) (n : Nat) (s : Int) (w w' : World) (e : Ending) : Prop :=
  ∃ (a : Option Addr) (c : Nat) (ts : List (List UInt8)), e = .returned (.slice a ts.length c) ∧ ts.Perm ((lasts (kb K) n fun j => S j == s).map (kb V)) ∧ ts.Pairwise (fun x y => x ≤ y) ∧ Row w' a ts.length (fun i => encStr (ts.getD i [])) ∧ Below w.heap.size w w'

theorem invK9 : ∀ key kl, keyOf Try.prog 9 key = some kl → ∃ x, key = encStr x := by
  intro key kl hk
  obtain ⟨x, hx, _⟩ := Maps.keyOf_str Try.underlying9 hk
  exact ⟨x, hx⟩

theorem invV9 : ∀ (v : Value) (y : DataW Unit × List MemPlace), oElem v = some y → ∃ c : Int × ByteArray, v = (fun c : Int × ByteArray => Value.agg #[.int .i64 c.1, .string c.2]) c := by
  intro v y hv
  obtain ⟨c, hc, _⟩ := oElem_inv hv
  exact ⟨c, hc⟩

theorem listed_mk {K : Nat → ByteArray} {S : Nat → Int} {V : Nat → ByteArray} {n : Nat} {s : Int} {w w' : World} {base g cap : Nat} {ss : List (List UInt8)} (hfin : ss.Perm ((lasts (kb K) n fun j => S j == s).map (kb V)))
    (hown : w'.ownsRow base 9 1 (.slice (some ⟨g, 0, none⟩) ss.length cap) ss.length ((ss.mergeSort fun x y => decide (x ≤ y)).map encStr)) (hb : Below w.heap.size w w') :
    Listed K S V n s w w' (.returned (.slice (some ⟨g, 0, none⟩) ss.length cap)) := by
  have hlen : (ss.mergeSort fun x y => decide (x ≤ y)).length = ss.length := by simp
  have tr : ∀ a b c : List UInt8, decide (a ≤ b) = true → decide (b ≤ c) = true → decide (a ≤ c) = true := fun a b c h1 h2 => by simp only [decide_eq_true_eq] at *; exact List.le_trans h1 h2
  have to : ∀ a b : List UInt8, (decide (a ≤ b) || decide (b ≤ a)) = true := fun a b => by simp only [Bool.or_eq_true, decide_eq_true_eq]; exact List.le_total a b
  refine ⟨_, cap, ss.mergeSort fun x y => decide (x ≤ y), by rw [hlen], (List.mergeSort_perm ss _).trans hfin, ?_, ?_, hb⟩
  · have := List.pairwise_mergeSort tr to ss
    exact this.imp (fun h => by simpa using h)
  · intro h0
    refine ⟨g, 0, rfl, fun i hi => ?_⟩
    rw [hlen] at hi
    rw [Nat.zero_add, hown.cellAt i (by omega)]
    simp [List.getD, hlen, hi]

set_option maxHeartbeats 1000000 in
theorem variables_any (B n : Nat) (s : Int) (K V : Nat → ByteArray) (S : Nat → Int) (D : DataW Unit) (w : World) (hn : n ≤ 4096) (hown : Hid (w.ownsMap Try.prog 9 oElem B n D)) (hT : Hid (Tells K S V n D)) :
    Calls Try.prog 12 #[.agg #[.string ⟨#[]⟩, .map (some B), .slice none 0 0], .int .i64 s] w fun e w' => Listed K S V n s w w' e := by
  obtain ⟨i9, hi, hz0, hz1, hz2⟩ := info_parts Try.info9
  have hBlt := hown.out.lt
  have HO := hid (hown.out.alloc (.cells #[.string ⟨#[]⟩, .map (some B), .slice none 0 0] 30))
  go_enter Try.func12, Try.ntmps12
  go_wp2_with (at_range; refine wpList_range_own _ rfl _ 28 rfl 9 43 law9 Try.underlying28 _ B n D rfl HO.out ?_; intro w0 hrg0 hg0 hs0; simp only [World.size_alloc] at hrg0 hs0)
  go_frame
  simp only [World.size_alloc]
  have HB0 : Below w.heap.size w w0 := ((Below.refl _ _).alloc (Nat.le_refl _) _).grown hg0 (by simp) (by simp)
  have HG0 := hid hg0
  clear HO hown hg0 hs0
  go_loopw [5] (fun v wr => ∃ left cnt ss, wr.ranges Try.prog 9 oElem B (w.heap.size + 1) n D left cnt ∧ wr.ownsRow (w.heap.size + 2) 9 1 v ss.length (ss.map encStr) ∧ Hid (Met K S V n s left ss) ∧ Below w.heap.size w wr ∧ w.heap.size + 2 ≤ wr.heap.size) (fun _ wr => wr.rangeLeft B (w.heap.size + 1))
  case atStart =>
    refine ⟨_, _, [], hrg0, World.ownsRow_nil _ _ _ _, Met.start hT.out s, HB0, ?_⟩
    have := HG0.out.size
    have := hrg0.lt
    omega
  case round =>
    obtain ⟨left, cnt, ss, hrg, hrow, hmet, hbel, hsz⟩ := hrel
    go_wp2_with (at_next; go_must (refine wpList_next_ranges _ rfl _ rfl 9 law9 oElem encStr (fun c : Int × ByteArray => Value.agg #[.int .i64 c.1, .string c.2]) invK9 invV9 B (w.heap.size + 1) n D left cnt rfl hrg ?_ ?_))
    · intro _ hl0
      have hfin := hid (hmet.out.done hl0)
      have hle := hmet.out.le
      have HB := hid hbel
      clear hmet hrg hl0
      rcases hrow.2 with ⟨hnil, h0⟩ | ⟨g, cap, cur, rfl, hbase, hb, h1, h2, h3, h4⟩
      · subst hnil
        clear hrow hbel
        go_wp2_with fail
        refine (sort_nil _).mono ?_
        rintro e w3 ⟨rfl, rfl⟩
        simp only []
        go_wp2
        go_ret
        have hss : ss = [] := List.eq_nil_of_length_eq_zero h0
        subst hss
        exact ⟨_, _, [], rfl, hfin.out, List.Pairwise.nil, fun h => by simp at h, HB.out⟩
      · have HH := hid (holds_of_block hb (by simpa using h4))
        have HL := hid (show g < wr.heap.size from (Array.getElem?_eq_some_iff.1 hb).1)
        have HR := hid (fun nn os => ownsRow_sorted (w := wr) (n := nn) (os := os) (ts := ss.mergeSort fun x y => decide (x ≤ y)) (by simp) hbase hb h1 h2 h3)
        clear hrow hbel hb h4 h3
        go_wp2_with fail
        refine (sort_any g 0 cap ss wr HH.out HL.out (by omega)).mono ?_
        rintro e w3 ⟨rfl, nn, os, hw3⟩
        have HW := hid hw3
        clear hw3
        simp only []
        go_wp2
        go_ret
        have hw3 := HW.out
        subst hw3
        exact listed_mk hfin.out (HR.out nn os) (HB.out.grown (grownBy_sorted _) HB.out.size (fun j hj => by cases hj; omega))
    · intro x c1 c2 kl yd yp w2 cnt2 hkey hlk hv hat hrg2 hlt hg2 hs2 hen
      obtain ⟨x', ex, rfl, _⟩ := Maps.keyOf_str Try.underlying9 hkey
      obtain rfl : x = x' := encStr_inj ex
      have hyd : yd = oDat (c1, c2) := by
        have := oElem_mk (c1, c2)
        unfold oVal at this
        rw [this] at hv
        cases hv; rfl
      subst hyd
      have hne1 := row_ne_iter hrow hrg
      have hrow2 : w2.ownsRow (w.heap.size + 2) 9 1 u5 ss.length (ss.map encStr) := hrow.kept hg2 (by
        by_cases e : u5.ownBlock = none
        · exact .inl e
        · exact .inr (fun e2 => hne1 e2.symm))
      have hbel2 : Below w.heap.size w w2 := hbel.grown hg2 hbel.size (by intro j hj; cases hj; omega)
      have hsz2 : w.heap.size + 2 ≤ w2.heap.size := Nat.le_trans hsz hg2.size
      have hleft := hid (show cnt2 < wr.rangeLeft B (w.heap.size + 1) by rw [hrg.left_eq]; exact hlt)
      have hle := hmet.out.le
      by_cases hs : c1 = s
      · have HM := hid (hmet.out.step_hit hT.out hlk hat hs)
        clear hs2 hkey hat hv ex hrow hrg hg2 hbel hsz hmet hlk hlt
        subst hs
        go_wp2_with (at_builtin; go_must (refine wpList_append_own _ rfl _ _ 22 rfl (w.heap.size + 2) 9 i9 (.string ByteArray.empty) 1 16 Try.underlying22 hi hz0 hz1 hz2 rfl (by decide) _ _ _ rfl ((hrow2.alloc _).alloc _) ⟨w2.heap.size + 1, 0, none⟩ 1 1 [.string c2] rfl rfl ?c1 ?c2 ?c3 ?c4 ?c5 ?_))
        case c2 => rfl
        case c3 => unfold maxLen; omega
        case c4 => omega
        case c5 => omega
        intro v' w3 hown3 hgrow3 hnil3
        have hrg3 := ((hrg2.alloc (.cells #[.int .i64 c1, .string c2] 43)).alloc (.cells #[.string c2] 9)).kept hgrow3 (row_ne_low hrow2 (by omega)) (row_ne_iter hrow2 hrg2)
        have HO3 : Hid (w3.ownsRow (w.heap.size + 2) 9 1 v' (ss ++ [c2.data.toList]).length ((ss ++ [c2.data.toList]).map encStr)) := by
          have e : ((ss ++ [c2.data.toList]).map encStr) = ss.map encStr ++ [.string c2] := by simp [encStr]
          rw [e, List.length_append]
          exact hown3
        have HB3 : Below w.heap.size w w3 := ((hbel2.alloc hbel2.size _).alloc (by simp; omega) _).grown hgrow3 (by simp; omega) (by
          intro j hj
          have := (hrow2.lt j hj).1
          omega)
        have hsz3 : w.heap.size + 2 ≤ w3.heap.size := by have := hgrow3.size; simp at this; omega
        have HR3 := hid hrg3
        clear hrow2 hrg2 hown3 hgrow3 hnil3 hrg3 hbel2 hsz2 hen
        go_wp2
        go_roundw
        case rel => exact ⟨_, _, _, HR3.out, HO3.out, HM.out, HB3, hsz3⟩
        case measure => rw [HR3.out.left_eq]; exact hleft.out
      · have HM := hid (hmet.out.step_miss hT.out hat hs)
        have hsb : (c1 == s) = false := by simpa using hs
        clear hs2 hkey hat hv ex hrow hrg hg2 hbel hsz hmet hlk hlt hs
        go_wp2
        go_roundw
        case rel => exact ⟨_, _, ss, hrg2.alloc _, hrow2.alloc _, HM.out, hbel2.alloc hbel2.size _, by simp; omega⟩
        case measure => rw [(hrg2.alloc _).left_eq]; exact hleft.out

end Go.Proofs.Qxb6601034a
