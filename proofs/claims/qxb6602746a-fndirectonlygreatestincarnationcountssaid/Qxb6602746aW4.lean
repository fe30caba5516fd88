/-
  THE WALK of 'FnDirectOnlyGreatestIncarnationCounts'.
-/
import Derived.Test.Qxb6602746aW3
import Derived.Deep.RegionWith
namespace Go.Proofs.Qxb6602746a
open Go.RowKit
set_option linter.unusedVariables false

def tk3 (x : Int × Int × Int) (a s : Int) : Int × Int × Int := tk x.1 x.2.1 x.2.2 a s
/-- The record behind the first k messages. -/
def allF (I S : Nat → Int) (x : Int × Int × Int) : Nat → Int × Int × Int
  | 0 => x
  | k + 1 => tk3 (allF I S x k) (I k) (S k)
/-- The record behind those of the first k messages that bear the incarnation T. -/
def onlyF (I S : Nat → Int) (T : Int) (x : Int × Int × Int) : Nat → Int × Int × Int
  | 0 => x
  | k + 1 => if I k = T then tk3 (onlyF I S T x k) (I k) (S k) else onlyF I S T x k

/-- T is the greatest of i and the first k incarnations. -/
def Top (I : Nat → Int) (i T : Int) (k : Nat) : Prop := i ≤ T ∧ (∀ j, j < k → I j ≤ T) ∧ (T = i ∨ ∃ j, j < k ∧ I j = T)
theorem Top.start (I : Nat → Int) (i : Int) : Top I i i 0 := ⟨Int.le_refl _, fun j hj => absurd hj (Nat.not_lt_zero _), .inl rfl⟩
theorem Top.up {I : Nat → Int} {i T : Int} {k : Nat} (h : Top I i T k) (hk : T < I k) : Top I i (I k) (k + 1) :=
  ⟨by have := h.1; omega, fun j hj => by
    by_cases e : j = k
    · subst e; exact Int.le_refl _
    · have := h.2.1 j (by omega); omega, .inr ⟨k, by omega, rfl⟩⟩
theorem Top.stay {I : Nat → Int} {i T : Int} {k : Nat} (h : Top I i T k) (hk : I k ≤ T) : Top I i T (k + 1) :=
  ⟨h.1, fun j hj => by
    by_cases e : j = k
    · subst e; exact hk
    · exact h.2.1 j (by omega), h.2.2.elim .inl fun ⟨j, hj, e⟩ => .inr ⟨j, by omega, e⟩⟩

theorem tk3_low (x : Int × Int × Int) (a s : Int) (h : a < x.1) : tk3 x a s = x := by
  unfold tk3 tk; rw [if_pos h]
theorem tk3_high (x : Int × Int × Int) (a s : Int) (h : x.1 < a) : tk3 x a s = (a, s, 1) := by
  unfold tk3 tk; rw [if_neg (by omega), if_neg (by omega), if_pos (by omega)]
theorem tk3_fst (x : Int × Int × Int) (a s : Int) : (tk3 x a s).1 = x.1 ∨ (tk3 x a s).1 = a := by
  unfold tk3 tk
  split
  · exact .inl rfl
  · split
    · exact .inl rfl
    · split
      · exact .inr rfl
      · exact .inl rfl

theorem same_end {I S : Nat → Int} {x : Int × Int × Int} {T : Int} {n : Nat} (h : Top I x.1 T n) : allF I S x n = onlyF I S T x n := by
  have key : ∀ k, k ≤ n → ((onlyF I S T x k).1 = T ∧ allF I S x k = onlyF I S T x k) ∨ (x.1 < T ∧ onlyF I S T x k = x ∧ (allF I S x k).1 < T ∧ ∀ j, j < k → I j ≠ T) := by
    intro k
    induction k with
    | zero =>
      intro _
      by_cases e : x.1 = T
      · exact .inl ⟨e, rfl⟩
      · have := h.1
        exact .inr ⟨by omega, rfl, by show x.1 < T; omega, fun j hj => absurd hj (Nat.not_lt_zero _)⟩
    | succ k ih =>
      intro hk
      have hle := h.2.1 k (by omega)
      rcases ih (by omega) with ⟨h1, h2⟩ | ⟨h1, h2, h3, h4⟩
      · by_cases e : I k = T
        · have e1 : onlyF I S T x (k + 1) = tk3 (onlyF I S T x k) (I k) (S k) := by rw [onlyF, if_pos e]
          have e2 : allF I S x (k + 1) = tk3 (onlyF I S T x k) (I k) (S k) := by rw [allF, h2]
          refine .inl ⟨?_, by rw [e1, e2]⟩
          rw [e1]
          rcases tk3_fst (onlyF I S T x k) (I k) (S k) with o | o
          · rw [o, h1]
          · rw [o, e]
        · have e1 : onlyF I S T x (k + 1) = onlyF I S T x k := by rw [onlyF, if_neg e]
          have e2 : allF I S x (k + 1) = onlyF I S T x k := by rw [allF, h2, tk3_low _ _ _ (by omega)]
          exact .inl ⟨by rw [e1, h1], by rw [e1, e2]⟩
      · by_cases e : I k = T
        · have e1 : onlyF I S T x (k + 1) = (I k, S k, 1) := by rw [onlyF, if_pos e, h2, tk3_high _ _ _ (by omega)]
          have e2 : allF I S x (k + 1) = (I k, S k, 1) := by rw [allF, tk3_high _ _ _ (by omega)]
          exact .inl ⟨by rw [e1]; exact e, by rw [e1, e2]⟩
        · have e1 : onlyF I S T x (k + 1) = x := by rw [onlyF, if_neg e, h2]
          refine .inr ⟨h1, e1, ?_, fun j hj => ?_⟩
          · show (tk3 (allF I S x k) (I k) (S k)).1 < T
            rcases tk3_fst (allF I S x k) (I k) (S k) with o | o <;> omega
          · by_cases ej : j = k
            · subst ej; exact e
            · exact h4 j (by omega)
  rcases key n (Nat.le_refl _) with ⟨_, h2⟩ | ⟨h1, _, _, h4⟩
  · exact h2
  · rcases h.2.2 with e | ⟨j, hj, e⟩
    · omega
    · exact absurd e (h4 j hj)

/-- The record at g reads x. -/
def Rec3 (w : World) (g : Nat) (x : Int × Int × Int) : Prop := Rec w g x.1 x.2.1 x.2.2
theorem Rec3.block {w w' : World} {g : Nat} {x : Int × Int × Int} (h : Rec3 w g x) (e : w'.heap[g]? = w.heap[g]?) : Rec3 w' g x := by
  unfold Rec3 Rec at *; rw [e]; exact h
theorem Rec3.lt {w : World} {g : Nat} {x : Int × Int × Int} (h : Rec3 w g x) : g < w.heap.size := by
  unfold Rec3 Rec at h
  obtain ⟨hlt, _⟩ := Array.getElem?_eq_some_iff.1 h
  exact hlt

theorem cell_lt {w : World} {b o : Nat} {v : Value} (h : w.cell? ⟨b, o, none⟩ = some v) : b < w.heap.size := by
  by_cases hb : b < w.heap.size
  · exact hb
  · simp [World.cell?, Array.getElem?_eq_none (Nat.le_of_not_lt hb)] at h

set_option maxHeartbeats 2000000 in
theorem law8_in (i l r : Int) (a : Option Addr) (n c : Nat) (I S : Nat → Int) (w : World) (hn : n ≤ 65536) (hK : Hid (Pairs w a n I S)) :
    Calls Try.prog 8 #[.int .u64 i, .int .u64 l, .int .u64 r, .slice a n c] w fun e w' => e = .returned (.bool true) ∧ Below w.heap.size w w' := by
  go_enter Try.func8, Try.ntmps8
  go_wp2_with fail
  refine (bytes_ok i l r a n c w (by omega)).mono ?_
  rintro _ w ⟨rfl, rfl⟩
  simp only []
  go_wp2_with fail
  refine (clone_any a n c I S w hn hK).mono ?_
  rintro _ w1 ⟨a1, c1, rfl, hp1, hb1⟩
  simp only []
  have P1 : Hid (Pairs w1 a1 n I S) := hid hp1
  clear hp1
  go_wp2
  go_loop [9, 10] (fun t x => ∃ (k : Nat) (T : Int), k ≤ n ∧ t = .int .u64 T ∧ x = .int .i64 k ∧ Hid (Top I i T k)) (fun _ x => n - (intOf x).toNat)
  case atStart => exact ⟨0, i, Nat.zero_le _, rfl, rfl, Top.start I i⟩
  case round =>
    obtain ⟨k, T, hk, rfl, rfl, hT⟩ := hrel
    by_cases hlt : k < n
    · obtain ⟨b0, o0, rfl, hc⟩ := P1.out (by omega)
      have hc0 := (hc k hlt).1
      clear hc
      by_cases hg : T < I k
      · go_wp2
        go_round
        case rel => exact ⟨k + 1, I k, by omega, rfl, by go_num, hT.out.up hg⟩
        case measure => simp [intOf]; omega
      · go_wp2
        go_round
        case rel => exact ⟨k + 1, T, by omega, rfl, by go_num, hT.out.stay (by omega)⟩
        case measure => simp [intOf]; omega
    · obtain rfl : k = n := by omega
      have hT' : Hid (Top I i T k) := hT
      clear hT
      go_wp2_with fail
      refine (make_any i l r w1).mono ?_
      rintro _ w2 ⟨rfl, hr2, hs2, hb2⟩
      simp only []
      have P2 : Hid (Pairs w2 a1 k I S) := hid (P1.out.later hb2)
      have R2 : Hid (Rec3 w2 w1.heap.size (allF I S (i, l, r) 0)) := hid hr2
      have B2 : Hid (Below w.heap.size w w2) := hid (hb1.trans (hb2.mono hb1.size))
      have L2 : Hid (∀ b o, a1 = some ⟨b, o, none⟩ → 0 < k → b < w1.heap.size) := hid (fun b o e h0 => by
        obtain ⟨b', o', e', hc⟩ := P1.out h0
        obtain rfl : b' = b := by rw [e] at e'; injection e' with e'; injection e' with e' _; exact e'.symm
        exact cell_lt (hc 0 h0).1)
      clear hr2 hb2 P1
      go_wp2
      go_loopw [12] (fun x wr => ∃ m : Nat, m ≤ k ∧ x = .int .i64 m ∧ Hid (Rec3 wr w1.heap.size (allF I S (i, l, r) m)) ∧ Hid (Below w1.heap.size w2 wr) ∧ Hid (wr.heap.size = w1.heap.size + 1)) (fun x _ => k - (intOf x).toNat)
      case atStart => exact ⟨0, Nat.zero_le _, rfl, R2, Below.refl _ _, hs2⟩
      case round =>
        obtain ⟨m, hm, rfl, hR, hB, hsz⟩ := hrel
        by_cases hlt : m < k
        · obtain ⟨b0, o0, rfl, hc⟩ := P2.out (by omega)
          have hb0 := L2.out b0 o0 rfl (by omega)
          have hc0 : wr.cell? ⟨b0, o0 + m * 2, none⟩ = some (.int .u64 (I m)) := by rw [hB.out.cell hb0]; exact (hc m hlt).1
          have hc1 : wr.cell? ⟨b0, o0 + m * 2 + 1, none⟩ = some (.int .u64 (S m)) := by rw [hB.out.cell hb0]; exact (hc m hlt).2
          clear hc
          have HT : Hid (Calls Try.prog 16 #[.pointer (some ⟨w1.heap.size, 0, none⟩), .int .u64 (I m), .int .u64 (S m)] wr.drew (Took w1.heap.size wr.drew (allF I S (i, l, r) (m + 1)))) := hid (zzTake_any _ _ _ _ _ _ _ (hid (Rec.drewN hR.out 1)))
          go_wp2
          go_region_with (go_at_call 16; refine HT.out.mono ?_; rintro _ w3 ⟨rfl, hR3, hO3⟩)
          all_goals
            go_wp2
            go_roundw
            case rel => exact ⟨m + 1, by omega, by go_num, hid hR3, hid (hB.out.drew.trans (hO3.below (Nat.le_refl _))), hid (by rw [hO3.size]; exact hsz.out)⟩
            case measure => simp [intOf]; omega
        · obtain rfl : m = k := by omega
          have HS : Hid (allF I S (i, l, r) m = onlyF I S T (i, l, r) m) := hid (same_end hT'.out)
          have P3 : Hid (Pairs wr a1 m I S) := hid (fun h0 => by
            obtain ⟨b0, o0, e, hc⟩ := P2.out h0
            have hb0 := L2.out b0 o0 e h0
            exact ⟨b0, o0, e, fun j hj => ⟨by rw [hB.out.cell hb0]; exact (hc j hj).1, by rw [hB.out.cell hb0]; exact (hc j hj).2⟩⟩)
          have B3 : Hid (Below w.heap.size w wr) := hid (B2.out.trans (hB.out.mono hb1.size))
          clear hB B2 P2 hT'
          obtain ⟨wo, rfl⟩ : ∃ wo : World, wo = wr := ⟨_, rfl⟩
          go_wp2_with fail
          refine (make_any i l r wo).mono ?_
          rintro _ w4 ⟨rfl, hr4, hs4, hb4⟩
          simp only []
          have P4 : Hid (Pairs w4 a1 m I S) := hid (P3.out.later hb4)
          have R4 : Hid (Rec3 w4 wo.heap.size (onlyF I S T (i, l, r) 0)) := hid hr4
          have A4 : Hid (Rec3 w4 w1.heap.size (allF I S (i, l, r) m)) := hid (hR.out.block (hb4.block _ (by have := hsz.out; omega)))
          have B4 : Hid (Below w.heap.size w w4) := hid (B3.out.trans (hb4.mono B3.out.size))
          have L4 : Hid (∀ b o, a1 = some ⟨b, o, none⟩ → 0 < m → b < wo.heap.size) := hid (fun b o e h0 => by have := L2.out b o e h0; have := hsz.out; omega)
          have Z4 : Hid (w.heap.size ≤ wo.heap.size) := hid B3.out.size
          have Z5 : Hid (w1.heap.size < wo.heap.size) := hid (by have := hsz.out; omega)
          clear hr4 hb4 P3 B3 hR L2
          go_wp2
          go_loopw [14] (fun x wr => ∃ q : Nat, q ≤ m ∧ x = .int .i64 q ∧ Hid (Rec3 wr wo.heap.size (onlyF I S T (i, l, r) q)) ∧ Hid (Below wo.heap.size w4 wr)) (fun x _ => m - (intOf x).toNat)
          case atStart => exact ⟨0, Nat.zero_le _, rfl, R4, Below.refl _ _⟩
          case round =>
            obtain ⟨q, hq, rfl, hR, hB⟩ := hrel
            by_cases hlt : q < m
            · obtain ⟨b0, o0, rfl, hc⟩ := P4.out (by omega)
              have hb0 := L4.out b0 o0 rfl (by omega)
              have hc0 : wr.cell? ⟨b0, o0 + q * 2, none⟩ = some (.int .u64 (I q)) := by rw [hB.out.cell hb0]; exact (hc q hlt).1
              have hc1 : wr.cell? ⟨b0, o0 + q * 2 + 1, none⟩ = some (.int .u64 (S q)) := by rw [hB.out.cell hb0]; exact (hc q hlt).2
              clear hc
              by_cases he : I q = T
              · have E : onlyF I S T (i, l, r) (q + 1) = tk3 (onlyF I S T (i, l, r) q) (I q) (S q) := by rw [onlyF, if_pos he]
                have HT : Hid (Calls Try.prog 16 #[.pointer (some ⟨wo.heap.size, 0, none⟩), .int .u64 (I q), .int .u64 (S q)] wr.drew (Took wo.heap.size wr.drew (onlyF I S T (i, l, r) (q + 1)))) := hid (by rw [E]; exact zzTake_any _ _ _ _ _ _ _ (hid (Rec.drewN hR.out 1)))
                clear E
                subst he
                go_wp2
                go_region_with (go_at_call 16; refine HT.out.mono ?_; rintro _ w5 ⟨rfl, hR5, hO5⟩)
                all_goals
                  go_wp2
                  go_roundw
                  case rel => exact ⟨q + 1, by omega, by go_num, hid hR5, hid (hB.out.drew.trans (hO5.below (Nat.le_refl _)))⟩
                  case measure => simp [intOf]; omega
              · have E : onlyF I S T (i, l, r) (q + 1) = onlyF I S T (i, l, r) q := by rw [onlyF, if_neg he]
                have HR : Hid (Rec3 wr wo.heap.size (onlyF I S T (i, l, r) (q + 1))) := hid (by rw [E]; exact hR.out)
                clear E
                go_wp2
                go_roundw
                case rel => exact ⟨q + 1, by omega, by go_num, HR, hB⟩
                case measure => simp [intOf]; omega
            · obtain rfl : q = m := by omega
              have A5 := A4.out.block (hB.out.block _ Z5.out)
              have O5 := hR.out
              rw [HS.out] at A5
              have B5 : Hid (Below w.heap.size w wr) := hid (B4.out.trans (hB.out.mono Z4.out))
              revert A5 O5
              obtain ⟨⟨i5, l5, r5⟩, hx⟩ : ∃ x, onlyF I S T (i, l, r) q = x := ⟨_, rfl⟩
              rw [hx]
              intro A5 O5
              clear hx HS A4 R4 P4 B4 hB hR L4
              obtain ⟨wp, rfl⟩ : ∃ wp : World, wp = wr := ⟨_, rfl⟩
              go_wp2_with fail
              refine (state_any w1.heap.size i5 l5 r5 wp (hid A5)).mono ?_
              rintro _ w6 ⟨rfl, n6, rfl⟩
              simp only []
              go_wp2_with fail
              refine (state_any wo.heap.size i5 l5 r5 (wp.drewN n6) (hid (Rec.drewN O5 n6))).mono ?_
              rintro _ w7 ⟨rfl, n7, rfl⟩
              simp only []
              go_wp2
              go_ret
              exact ⟨rfl, below_drewN B5.out _⟩
end Go.Proofs.Qxb6602746a
