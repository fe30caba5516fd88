/-
  THE WALKS of seat b6602016a, sixth part: reached, precedes, valueBefore.
-/
import Derived.Test.Qxb6602016aW5
namespace Go.Proofs.Qxb6602016a
open Go.RowKit Tar
set_option linter.unusedVariables false

set_option maxHeartbeats 1000000 in
theorem reached_any (b h g MS n S r s cr P : Nat) (z : Int) (w : World) (hMS : MS ≤ 1048576) (hr : r < n) (hS2 : S ≤ 65536) (hn : n ≤ 512) (hPI : (cr : Int) * (S : Int) = (P : Int)) (hP : P + s < MS)
    (c2 : w.cell? ⟨b, 2, none⟩ = some (.slice (some ⟨h, 0, none⟩) n n)) (c4 : w.cell? ⟨b, 4, none⟩ = some (.int .i64 (S : Int))) (c5 : w.cell? ⟨b, 5, none⟩ = some (.slice (some ⟨g, 0, none⟩) MS MS))
    (d1 : w.cell? ⟨h, r, none⟩ = some (.int .i64 (cr : Int))) (d2 : w.cell? ⟨g, P + s, none⟩ = some (.int .i32 z)) :
    Calls Try.prog 27 #[.pointer (some ⟨b, 0, none⟩), .int .i64 (r : Int), .int .i64 (s : Int)] w fun e w' => e = .returned (.int .i32 z) ∧ ∃ N, w' = w.drewN N := by
  have i1 : (r : Int) < (n : Int) := by omega
  have i2 : (P : Int) + (s : Int) < (MS : Int) := by omega
  go_enter Try.func27, Try.ntmps27
  go_wp2
  go_quiet (fail)
  go_wp2
  go_ret
  exact ⟨rfl, _, rfl⟩

set_option maxHeartbeats 1000000 in
theorem precedes_any (b h g MS n S x r s cr P bs os ls cs bp op lp cp0 : Nat) (z p : Int) (w : World) (hMS : MS ≤ 1048576) (hr : r < n) (hS2 : S ≤ 65536) (hn : n ≤ 512) (hPI : (cr : Int) * (S : Int) = (P : Int)) (hP : P + s < MS) (hx : x < ls) (hx2 : x < lp) (hls : ls ≤ 65536) (hlp : lp ≤ 65536)
    (c0 : w.cell? ⟨b, 0, none⟩ = some (.slice (some ⟨bs, os, none⟩) ls cs)) (c1 : w.cell? ⟨b, 1, none⟩ = some (.slice (some ⟨bp, op, none⟩) lp cp0))
    (c2 : w.cell? ⟨b, 2, none⟩ = some (.slice (some ⟨h, 0, none⟩) n n)) (c4 : w.cell? ⟨b, 4, none⟩ = some (.int .i64 (S : Int))) (c5 : w.cell? ⟨b, 5, none⟩ = some (.slice (some ⟨g, 0, none⟩) MS MS))
    (d1 : w.cell? ⟨h, r, none⟩ = some (.int .i64 (cr : Int))) (d2 : w.cell? ⟨g, P + s, none⟩ = some (.int .i32 z)) (d3 : w.cell? ⟨bs, os + x, none⟩ = some (.int .i64 (s : Int))) (d4 : w.cell? ⟨bp, op + x, none⟩ = some (.int .i32 p)) :
    Calls Try.prog 29 #[.pointer (some ⟨b, 0, none⟩), .int .i64 (x : Int), .int .i64 (r : Int)] w fun e w' => e = .returned (.bool (decide (p ≤ z))) ∧ ∃ N, w' = w.drewN N := by
  have i1 : (x : Int) < (ls : Int) := by omega
  have i2 : (x : Int) < (lp : Int) := by omega
  go_enter Try.func29, Try.ntmps29
  go_wp2
  go_quiet (first | (go_at_call 27; refine Calls.quiet_of (reached_any b h g MS n S r s cr P z _ hMS hr hS2 hn hPI hP c2 c4 c5 d1 d2)))
  go_wp2
  go_ret
  exact ⟨rfl, _, rfl⟩

/-- The causal order in memory, all names spelt. -/
structure CA (G : Gr) (D : Src) (bs os ls cs bp op lp cp0 b h g m MS : Nat) (cp : Nat → Nat) (f : Nat → Int) (w : World) : Prop where
  c0 : w.cell? ⟨b, 0, none⟩ = some (.slice (some ⟨bs, os, none⟩) ls cs)
  c1 : w.cell? ⟨b, 1, none⟩ = some (.slice (some ⟨bp, op, none⟩) lp cp0)
  c2 : w.cell? ⟨b, 2, none⟩ = some (.slice (some ⟨h, 0, none⟩) G.n G.n)
  c4 : w.cell? ⟨b, 4, none⟩ = some (.int .i64 (D.S : Int))
  c5 : w.cell? ⟨b, 5, none⟩ = some (.slice (some ⟨g, 0, none⟩) MS MS)
  le : MS ≤ 1048576
  ms : MS = m * D.S
  d1 : ∀ i, i < G.n → cp i < m ∧ w.cell? ⟨h, i, none⟩ = some (.int .i64 ((cp i : Nat) : Int))
  d2 : ∀ x, x < MS → w.cell? ⟨g, x, none⟩ = some (.int .i32 (f x))
  d3 : ∀ x, x < G.n → w.cell? ⟨bs, os + x, none⟩ = some (.int .i64 ((D.ses x : Nat) : Int))
  d4 : ∀ x, x < G.n → w.cell? ⟨bp, op + x, none⟩ = some (.int .i32 (D.pos x))
  fil : Filled G D cp f

theorem CA.later {G : Gr} {D : Src} {bs os ls cs bp op lp cp0 b h g m MS : Nat} {cp : Nat → Nat} {f : Nat → Int} {w w' : World} (c : CA G D bs os ls cs bp op lp cp0 b h g m MS cp f w) (hb : Below w.heap.size w w') : CA G D bs os ls cs bp op lp cp0 b h g m MS cp f w' :=
  ⟨cell_later hb c.c0, cell_later hb c.c1, cell_later hb c.c2, cell_later hb c.c4, cell_later hb c.c5, c.le, c.ms, fun i hi => ⟨(c.d1 i hi).1, cell_later hb (c.d1 i hi).2⟩, fun x hx => cell_later hb (c.d2 x hx), fun x hx => cell_later hb (c.d3 x hx), fun x hx => cell_later hb (c.d4 x hx), c.fil⟩

theorem prec_any {G : Gr} {D : Src} {bs os ls cs bp op lp cp0 b h g m MS : Nat} {cp : Nat → Nat} {f : Nat → Int} {w : World} (c : CA G D bs os ls cs bp op lp cp0 b h g m MS cp f w) (hn : G.n ≤ 512) (hS2 : D.S ≤ 65536) (hls : G.n ≤ ls) (hlp : G.n ≤ lp) (hls2 : ls ≤ 65536) (hlp2 : lp ≤ 65536)
    (hes : ∀ i, i < G.n → D.ses i < D.S) (x r : Nat) (hx : x < G.n) (hr : r < G.n) :
    Calls Try.prog 29 #[.pointer (some ⟨b, 0, none⟩), .int .i64 (x : Int), .int .i64 (r : Int)] w fun e w' => e = .returned (.bool (decide (D.pos x ≤ f (cp r * D.S + D.ses x)))) ∧ ∃ N, w' = w.drewN N := by
  obtain ⟨hc, d1⟩ := c.d1 r hr
  have hlt : cp r * D.S + D.ses x < MS := by rw [c.ms]; exact flat_lt (hes x hx) hc
  exact precedes_any b h g MS G.n D.S x r (D.ses x) (cp r) (cp r * D.S) bs os ls cs bp op lp cp0 _ _ w c.le hr hS2 hn (by simp) hlt (by omega) (by omega) hls2 hlp2 c.c0 c.c1 c.c2 c.c4 c.c5 d1 (c.d2 _ hlt) (c.d3 x hx) (c.d4 x hx)

/-- Whether one of the first k values is tested true. -/
def Hit (fv : Nat → Int) (T : Nat → Bool) (k : Nat) : Prop := ∃ j, j < k ∧ 0 ≤ fv j ∧ T (fv j).toNat = true

set_option maxHeartbeats 1000000 in
theorem valueBefore_any (b n r : Nat) (T : Nat → Bool) (fv : Nat → Int) (B : Nat → Nat) (aW : Option Addr) (lW cW : Nat) (w : World) (hl : lW ≤ 65536) (hfv : Hid (∀ k, k < lW → fv k < n)) (hrow : Hid (Row w aW lW (fun k => .pointer (some ⟨B k, 0, none⟩)))) (hB : Hid (∀ k, k < lW → w.cell? ⟨B k, 3, none⟩ = some (.int .i64 (fv k))))
    (hT : Hid (∀ x, x < n → ∀ N, Calls Try.prog 29 #[.pointer (some ⟨b, 0, none⟩), .int .i64 (x : Int), .int .i64 (r : Int)] (w.drewN N) fun e w' => e = .returned (.bool (T x)) ∧ ∃ M, w' = (w.drewN N).drewN M)) :
    Calls Try.prog 28 #[.pointer (some ⟨b, 0, none⟩), .int .i64 (r : Int), .slice aW lW cW] w fun e w' => ∃ v, e = .returned (.bool v) ∧ (v = true ↔ Hit fv T lW) ∧ ∃ N, w' = w.drewN N := by
  go_enter Try.func28, Try.ntmps28
  go_wp2
  go_loopw [11] (fun i wr => ∃ (k N : Nat), k ≤ lW ∧ i = .int .i64 k ∧ wr = w.drewN N ∧ Hid (¬ Hit fv T k)) (fun i _ => lW - (intOf i).toNat)
  case atStart => exact ⟨0, 0, Nat.zero_le _, rfl, rfl, fun ⟨j, hj, _⟩ => by omega⟩
  case round =>
    obtain ⟨k, N, hk, rfl, rfl, hno⟩ := hrel
    by_cases hlt : k < lW
    · obtain ⟨b0, o0, rfl, hc⟩ := hrow.out (by omega)
      have d0 : (w.drewN N).cell? ⟨b0, o0 + k, none⟩ = some (.pointer (some ⟨B k, 0, none⟩)) := hc k hlt
      have d1 : (w.drewN N).cell? ⟨B k, 3, none⟩ = some (.int .i64 (fv k)) := hB.out k hlt
      have hfk := hfv.out k hlt
      clear hc
      by_cases h0 : 0 ≤ fv k
      · obtain ⟨x, hx⟩ : ∃ x : Nat, fv k = (x : Int) := ⟨(fv k).toNat, by omega⟩
        rw [hx] at d1 hfk h0
        have hxn : x < n := by omega
        have HT := hid (hT.out x hxn N)
        have HX := hid hx
        clear hx
        go_wp2_with fail
        refine HT.out.mono ?_
        rintro e w' ⟨rfl, M, rfl⟩
        simp only []
        cases hTx : T x with
        | true =>
          go_wp2
          go_ret
          refine ⟨true, rfl, ?_, _, rfl⟩
          simp only [true_iff]
          exact ⟨k, hlt, by rw [HX.out]; omega, by rw [HX.out]; simpa using hTx⟩
        | false =>
          go_wp2
          go_roundw
          case rel => exact ⟨k + 1, N + M, by omega, by go_num, by simp, fun ⟨j, hj, hj2, hj3⟩ => by
            by_cases e : j = k
            · subst e; rw [HX.out] at hj3; simp [hTx] at hj3
            · exact hno.out ⟨j, by omega, hj2, hj3⟩⟩
          case measure => simp [intOf]; omega
      · go_wp2
        go_roundw
        case rel => exact ⟨k + 1, N, by omega, by go_num, rfl, fun ⟨j, hj, hj2, hj3⟩ => by
          by_cases e : j = k
          · subst e; exact h0 hj2
          · exact hno.out ⟨j, by omega, hj2, hj3⟩⟩
        case measure => simp [intOf]; omega
    · obtain rfl : lW = k := by omega
      go_wp2
      go_ret
      refine ⟨false, rfl, ?_, _, rfl⟩
      simp only [Bool.false_eq_true, false_iff]
      exact hno.out

end Go.Proofs.Qxb6602016a
