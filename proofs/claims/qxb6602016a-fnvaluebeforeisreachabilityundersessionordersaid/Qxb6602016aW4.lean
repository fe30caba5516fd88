/-
  THE WALKS of seat b6602016a, fourth part: stronglyConnected.
-/
import Derived.Test.Qxb6602016aK1
import Derived.Test.Qxb6602016aR2
namespace Go.Proofs.Qxb6602016a
open Go.RowKit Tar
set_option linter.unusedVariables false

theorem set_mid {α : Type} (l r : List α) (x y : α) (i : Nat) (h : i = l.length) : (l ++ x :: r).set i y = l ++ y :: r := by
  subst h
  rw [List.set_append_right _ _ (Nat.le_refl _)]
  simp

theorem get_mid {α : Type} (l r : List α) (x : α) (i : Nat) (h : i = l.length) : (l ++ x :: r)[i]? = some x := by
  subst h
  rw [List.getElem?_append_right (Nat.le_refl _)]
  simp

/-- THE LAST LOOP: the order is turned round. -/
theorem rev_loop (v2 v3 : Value) (aO : Option Addr) (lO cO : Nat) (ord : List Nat) (H b k : Nat) (f : Nat → Value) (W : World) (hb : b ≤ H + 3) (hn : lO ≤ 512) (t : Array Value) (wr : World) (Q : Exit → Act → World → Prop)
    (hF : Fr4 t v2 v3 (.slice aO lO cO) (.int .i64 0) (.int .i64 ((lO : Int) - 1))) (hO : wr.ownsRow (H + 3) 3 1 (.slice aO lO cO) ord.length (ord.map iv)) (hR : wr.rowIs H 3 k f) (hB : Below b W wr)
    (hQ : ∀ t' w' vi vj, Fr4 t' v2 v3 (.slice aO lO cO) vi vj → w'.ownsRow (H + 3) 3 1 (.slice aO lO cO) ord.length (ord.reverse.map iv) → w'.rowIs H 3 k f → Below b W w' → Q (.exit 8) ⟨t', []⟩ w') :
    Code.wp Try.prog (.loop ((loopsOf (Try.f25.body.getD .skip)).getD 4 .skip)) Q ⟨t, []⟩ wr := by
  obtain ⟨hlO, _⟩ := own_cap hO
  refine wp_loop_ghost (fun m act w => ∃ pre md suf t, m = md.length ∧ ord = pre ++ md ++ suf ∧ pre.length = suf.length ∧ act = ⟨t, []⟩ ∧ Fr4 t v2 v3 (.slice aO lO cO) (.int .i64 (pre.length : Int)) (.int .i64 ((lO : Int) - 1 - pre.length)) ∧
    w.ownsRow (H + 3) 3 1 (.slice aO lO cO) ord.length ((suf.reverse ++ md ++ pre.reverse).map iv) ∧ w.rowIs H 3 k f ∧ Below b W w) ord.length ⟨[], ord, [], t, rfl, by simp, rfl, rfl, by simpa using hF, by simpa using hO, hR, hB⟩ ?_
  rintro m act w ⟨pre, md, suf, t, rfl, hord, hps, rfl, hF, hO, hR, hB⟩
  obtain ⟨x, rfl⟩ := hF.lit
  have hlen : lO = pre.length + md.length + suf.length := by rw [hlO, hord]; simp; omega
  have done : md.reverse = md → ∀ t' vi vj, Fr4 t' v2 v3 (.slice aO lO cO) vi vj → Q (.exit 8) ⟨t', []⟩ w := by
    intro hrev t' vi vj hF'
    refine hQ t' w _ _ hF' ?_ hR hB
    rw [hord, List.reverse_append, List.reverse_append, hrev]
    rw [hord] at hO
    simpa using hO
  rcases md with _ | ⟨p, md⟩
  · refine v_done v2 v3 _ pre.length _ (by simp at hlen; omega) x w _ (hid ?_)
    intro t' hF'
    exact done rfl t' _ _ hF'
  · rcases List.eq_nil_or_concat md with rfl | ⟨mid, q, rfl⟩
    · refine v_done v2 v3 _ pre.length _ (by simp at hlen; omega) x w _ (hid ?_)
      intro t' hF'
      exact done rfl t' _ _ hF'
    · clear done
      rw [List.concat_eq_append] at hord hO hlen
      simp only [List.length_cons, List.length_append, List.length_nil] at hlen
      have hol : ord.length = lO := hlO.symm
      rw [hol] at hO
      obtain ⟨g, cap, hv, hg, _⟩ := hO.form (by omega)
      simp only [Value.slice.injEq] at hv
      obtain ⟨rfl, _, rfl⟩ := hv
      have hj : (lO : Int) - 1 - (pre.length : Int) = ((pre.length + 1 + mid.length : Nat) : Int) := by omega
      rw [hj]
      have l1 : (suf.reverse ++ (p :: (mid ++ [q])) ++ pre.reverse).map iv = (suf.reverse.map iv) ++ iv p :: ((mid ++ [q] ++ pre.reverse).map iv) := by simp
      have l2 : (suf.reverse ++ (p :: (mid ++ [q])) ++ pre.reverse).map iv = ((suf.reverse ++ p :: mid).map iv) ++ iv q :: (pre.reverse.map iv) := by simp
      have ci : w.cell? ⟨g, pre.length, none⟩ = some (iv p) := by
        rw [hO.cellAt _ (by omega), l1]
        exact get_mid _ _ _ _ (by simp [hps])
      have cj : w.cell? ⟨g, pre.length + 1 + mid.length, none⟩ = some (iv q) := by
        rw [hO.cellAt _ (by omega), l2]
        exact get_mid _ _ _ _ (by simp [hps]; omega)
      refine v_turn v2 v3 g lO cO pre.length (pre.length + 1 + mid.length) (by omega) (by omega) hn p q x w _ ci cj (hO.frozenAt _) (hO.frozenAt _) (hid ?_)
      intro t' hF'
      have hO2 := ((hO.stored pre.length (iv q)).1.stored (pre.length + 1 + mid.length) (iv p)).1
      rw [l1, set_mid _ _ _ _ _ (by simp [hps])] at hO2
      have l3 : (suf.reverse.map iv) ++ iv q :: ((mid ++ [q] ++ pre.reverse).map iv) = ((suf.reverse ++ q :: mid).map iv) ++ iv q :: (pre.reverse.map iv) := by simp
      rw [l3, set_mid _ _ _ _ _ (by simp [hps]; omega)] at hO2
      refine ⟨mid.length, by simp; omega, pre ++ [p], mid, q :: suf, t', rfl, by rw [hord]; simp, by simp [hps], rfl, ?_, ?_, ?_, ?_⟩
      · have e1 : ((pre ++ [p]).length : Int) = ((pre.length + 1 : Nat) : Int) := by simp
        have e2 : (lO : Int) - 1 - ((pre ++ [p]).length : Int) = ((pre.length + 1 + mid.length - 1 : Nat) : Int) := by simp; omega
        rw [e2, e1]
        exact hF'
      · have e : ((q :: suf).reverse ++ mid ++ (pre ++ [p]).reverse).map iv = ((suf.reverse ++ q :: mid).map iv) ++ iv p :: (pre.reverse.map iv) := by simp
        rw [e, hol]
        exact hO2.drew
      · have hgH : H ≠ g := by omega
        exact World.rowIs.setOther (World.rowIs.setOther hR (a := ⟨g, pre.length, none⟩) (by show H ≠ g; exact hgH) (iv q)) (a := ⟨g, pre.length + 1 + mid.length, none⟩) (by show H ≠ g; exact hgH) (iv p)
      · exact below_drewN ((hB.setCell (p := ⟨g, pre.length, none⟩) (by show b ≤ g; omega) _).setCell (p := ⟨g, pre.length + 1 + mid.length, none⟩) (by show b ≤ g; omega) _) 1

/-- What stronglyConnected hands back. -/
def Strong (G : Gr) (w w' : World) (e : Ending) : Prop :=
  ∃ (comp : Nat → Int) (comps : Nat) (order : List Nat) (vo : Value), e = .returned (.tuple #[.slice (some ⟨w.heap.size, 0, none⟩) G.n G.n, .int .i64 ((comps : Nat) : Int), vo]) ∧ Done G comp comps order ∧
    w'.rowIs w.heap.size 3 G.n (fun i => .int .i64 (comp i)) ∧ w'.ownsRow (w.heap.size + 3) 3 1 vo order.length (order.reverse.map iv) ∧ Below w.heap.size w w'

set_option maxRecDepth 100000 in
set_option maxHeartbeats 4000000 in
theorem strong_any (a : Option Addr) (n c : Nat) (deg : Nat → Nat) (A : Nat → Option Addr) (C : Nat → Nat) (Z : Nat → Nat → Int) (E : Nat → Nat → Nat) (w : World) (hn : n ≤ 512) (hS : Hid (Succ w a n deg A C Z))
    (hE : Hid (∀ i, i < n → ∀ k, k < deg i → Z i k = (E i k : Int) ∧ E i k < n)) :
    Calls Try.prog 25 #[.slice a n c] w fun e w' => Strong (Gr.mk n deg E) w w' e := by
  have hmk := run_make_row' (P := Try.prog) 25 3 (.int .i64 0) 8 Try.underlying25 Try.info3 rfl .i64 .i64 n (by omega) (by omega)
  go_enter Try.func25, Try.ntmps25
  go_wp2
  go_loopw [26] (fun i wr => ∃ k : Nat, k ≤ n ∧ i = .int .i64 k ∧ wr.rowIs w.heap.size 3 n (fun j => if j < k then .int .i64 (-1) else .int .i64 0) ∧ wr.heap.size = w.heap.size + 1 ∧ Below w.heap.size w wr) (fun i _ => n - (intOf i).toNat)
  case atStart => exact ⟨0, Nat.zero_le _, rfl, (World.rowIs_made w (.int .i64 0) n 3).congr (by simp), by simp, (Below.refl _ _).alloc (Nat.le_refl _) _⟩
  case round =>
    obtain ⟨k, hk, rfl, hrow, hsz, hbel⟩ := hrel
    by_cases hlt : k < n
    · have hfr := hrow.frozen k
      have hcl := hrow.cell hlt
      have HR := hrow.set k (.int .i64 (-1))
      have HB := hbel.setCell (p := ⟨w.heap.size, k, none⟩) (Nat.le_refl _) (.int .i64 (-1))
      have HZ := hid hsz
      clear hrow hbel hsz
      go_wp2
      go_roundw
      case rel =>
        refine ⟨k + 1, by omega, by go_num, HR.congr ?_, by simp [World.setCell]; exact HZ.out, HB⟩
        intro j hj
        by_cases e : j = k
        · subst e; simp
        · simp only [if_neg e]
          by_cases e2 : j < k
          · rw [if_pos e2, if_pos (by omega)]
          · rw [if_neg e2, if_neg (by omega)]
      case measure => simp [intOf]; omega
    · obtain rfl : k = n := by omega
      obtain ⟨w1, rfl⟩ : ∃ w1 : World, w1 = wr := ⟨_, rfl⟩
      have hrow2 : w1.rowIs w.heap.size 3 k (fun i => .int .i64 (St.start.comp i)) := hrow.congr (by intro j hj; simp [hj, St.start])
      clear hrow
      obtain ⟨i3, hi3, hz0, hz1, hz2⟩ := info_parts Try.info3
      obtain ⟨i48, hi48, hy0, hy1, hy2⟩ := info_parts Try.info48
      have T0 : Hid (Tm w.heap.size k St.start (.slice none 0 0) (.slice none 0 0) (.slice none 0 0) ((w1.alloc (.cells (madeCells #[.int .i64 0] k) 3)).alloc (.cells (madeCells #[.int .i64 0] k) 3))) := by
        refine ⟨(hrow2.alloc _).alloc _, ?_, ?_, World.ownsRow_nil _ _ _ _, World.ownsRow_nil _ _ _ _, World.ownsRow_nil _ _ _ _, ?_, ?_, ?_⟩
        · have := (World.rowIs_made w1 (.int .i64 0) k 3).alloc (.cells (madeCells #[.int .i64 0] k) 3)
          rw [hsz] at this
          exact this
        · have := World.rowIs_made (w1.alloc (.cells (madeCells #[.int .i64 0] k) 3)) (.int .i64 0) k 3
          rw [World.size_alloc, hsz] at this
          exact this
        · intro g hg; cases hg
        · intro g hg; cases hg
        · intro g hg; cases hg
      have B0 := hid ((hbel.alloc hbel.size (.cells (madeCells #[.int .i64 0] k) 3)).alloc (by simp; omega) (.cells (madeCells #[.int .i64 0] k) 3))
      clear hrow2 hbel
      go_wp2
      clear hmk hsz
      rw [show w.heap.size + 1 + 1 = w.heap.size + 2 from rfl]
      clear hlt hi3 hz0 hz1 hz2 hi48 hy0 hy1 hy2
      refine outer_loop w a k c 0 deg A C Z E hn hS.out hE.out (Nat.zero_le _) _ _ ⟨St.start, none, 0, none, 0, none, 0, 0, ⟨rfl, rfl, rfl, rfl, rfl, rfl, rfl, rfl, rfl, rfl, rfl, rfl, rfl⟩, T0.out, Inv.start _, rfl, fun x hx => by omega, B0.out⟩ _ ?_
      intro t' w' hO
      obtain ⟨s, aS, cS, aP, cP, aO, lO, cO, hF, hT, hI, hp, hfd, hB⟩ := hO
      have hD := hid (hI.done hp hfd)
      have hlo := (own_cap hT.oo).1
      have hol := hI.order_len
      have hL : lO ≤ 512 := by rw [hlo]; exact Nat.le_trans hol hn
      have HT := hid hT
      have HB := hid hB
      clear T0 B0 hT hI hp hfd hB hlo hol
      obtain ⟨x, rfl⟩ := hF.lit
      clear hF
      unfold lit
      go_wp2
      refine rev_loop _ _ aO lO cO s.order w.heap.size w.heap.size k _ w (by omega) hL _ _ _ ⟨rfl, rfl, rfl, rfl, rfl, rfl⟩ HT.out.oo HT.out.rc HB.out ?_
      intro t2 w2 vi vj hF2 hO2 hR2 hB2
      have HO2 := hid hO2
      have HR2 := hid hR2
      have HB2 := hid hB2
      obtain ⟨x2, rfl⟩ := hF2.lit
      clear hF2 hO2 hR2 hB2
      unfold lit4
      go_wp2
      go_ret3
      exact ⟨s.comp, s.comps, s.order, _, rfl, hD.out, HR2.out, HO2.out, HB2.out⟩

end Go.Proofs.Qxb6602016a
