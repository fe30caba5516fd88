/-
  THE WALKS of seat b6602016a, seventh part: the two exported words; the order of a session.
-/
import Derived.Test.Qxb6602016aW6
namespace Go.Proofs.Qxb6602016a
open Go.RowKit Tar
set_option linter.unusedVariables false

theorem Try.info42 : (Try.prog.info? 42).map (fun i => (i.zero, i.size, i.bytes)) = some (some (.pointer none), 1, 8) := by kernel_rfl

set_option maxHeartbeats 1000000 in
theorem zzOrder_any (a : Option Addr) (n c : Nat) (deg : Nat → Nat) (A : Nat → Option Addr) (C : Nat → Nat) (Z : Nat → Nat → Int) (E : Nat → Nat → Nat) (aS aP : Option Addr) (ls cs lp cp0 S : Nat) (ses : Nat → Nat) (pos : Nat → Int) (w : World) (hn : n ≤ 512) (hS : Hid (Succ w a n deg A C Z))
    (hE : Hid (∀ i, i < n → ∀ k, k < deg i → Z i k = (E i k : Int) ∧ E i k < n)) (hls : n ≤ ls) (hlp : n ≤ lp) (hls2 : ls ≤ 65536) (hlp2 : lp ≤ 65536) (hS2 : S ≤ 65536) (hnS : Hid (n * S ≤ 1048576))
    (hse : Hid (Row w aS n (fun i => .int .i64 ((ses i : Nat) : Int)))) (hpo : Hid (Row w aP n (fun i => .int .i32 (pos i)))) (hes : Hid (∀ i, i < n → ses i < S ∧ 0 ≤ pos i)) :
    Calls Try.prog 19 #[.slice a n c, .slice aS ls cs, .slice aP lp cp0, .int .i64 (S : Int)] w fun e w' => ∃ v, e = .returned v ∧ Caus (Gr.mk n deg E) ⟨S, ses, pos⟩ (.slice aS ls cs) (.slice aP lp cp0) v w' ∧ Below w.heap.size w w' := by
  have HO := hid (order_any a n c deg A C Z E aS aP ls cs lp cp0 S ses pos w hn hS hE hls hlp hls2 hlp2 hS2 hnS hse hpo hes)
  clear hS hE hnS hse hpo hes
  go_enter Try.func19, Try.ntmps19
  go_wp2_with fail
  refine HO.out.mono ?_
  rintro e w' ⟨v, rfl, hC, hB⟩
  simp only []
  have HC := hid hC
  have HB := hid hB
  clear hC hB
  go_wp2
  go_ret
  exact ⟨v, rfl, HC.out, HB.out⟩

/-- Some operation of x's session, at its place or later, reaches r. -/
def Late (G : Gr) (D : Src) (r x : Nat) : Prop := ∃ y, y < G.n ∧ D.ses y = D.ses x ∧ D.pos x ≤ D.pos y ∧ G.reach y r

/-- One of the values is one such. -/
def Some6 (G : Gr) (D : Src) (r : Nat) (fv : Nat → Int) (l : Nat) : Prop := ∃ k, k < l ∧ ∃ x : Nat, fv k = (x : Int) ∧ Late G D r x

set_option maxHeartbeats 1000000 in
theorem zzValue_any {G : Gr} {D : Src} {bs os ls cs bp op lp cp0 b h g m MS : Nat} {cp : Nat → Nat} {f : Nat → Int} {w : World} (hc : Hid (CA G D bs os ls cs bp op lp cp0 b h g m MS cp f w)) (hn : G.n ≤ 512) (hS2 : D.S ≤ 65536) (hls : G.n ≤ ls) (hlp : G.n ≤ lp) (hls2 : ls ≤ 65536) (hlp2 : lp ≤ 65536)
    (hes : Hid (∀ i, i < G.n → D.ses i < D.S ∧ 0 ≤ D.pos i)) (r : Nat) (hr : r < G.n) (aF : Option Addr) (lf cF : Nat) (fv : Nat → Int) (hlf : lf ≤ 65536) (hF : Hid (Row w aF lf (fun k => .int .i64 (fv k)))) (hfv : Hid (∀ k, k < lf → fv k < G.n)) :
    Calls Try.prog 22 #[.pointer (some ⟨b, 0, none⟩), .int .i64 (r : Int), .slice aF lf cF] w fun e w' => ∃ v, e = .returned (.bool v) ∧ (v = true ↔ Some6 G D r fv lf) ∧ Below w.heap.size w w' := by
  have hmk := run_make_row' (P := Try.prog) 41 42 (.pointer none) 8 Try.underlying41 Try.info42 rfl .i64 .i64 lf (by omega) (by omega)
  go_enter Try.func22, Try.ntmps22
  go_wp2
  clear hmk
  go_loopw [8] (fun i wr => ∃ k : Nat, k ≤ lf ∧ i = .int .i64 k ∧ wr.rowIs w.heap.size 42 lf (fun j => if j < k then .pointer (some ⟨w.heap.size + 1 + j, 0, none⟩) else .pointer none) ∧ Hid (wr.heap.size = w.heap.size + 1 + k) ∧ Hid (∀ j, j < k → wr.cell? ⟨w.heap.size + 1 + j, 3, none⟩ = some (.int .i64 (fv j))) ∧ Below w.heap.size w wr) (fun i _ => lf - (intOf i).toNat)
  case atStart => exact ⟨0, Nat.zero_le _, rfl, (World.rowIs_made w (.pointer none) lf 42).congr (by simp), by show _ = _; simp, fun j hj => by omega, (Below.refl _ _).alloc (Nat.le_refl _) _⟩
  case round =>
    obtain ⟨k, hk, rfl, hrow, hsz, hcells, hbel⟩ := hrel
    by_cases hlt : k < lf
    · obtain ⟨b1, o1, rfl, hc1⟩ := hF.out (by omega)
      have d1 : wr.cell? ⟨b1, o1 + k, none⟩ = some (.int .i64 (fv k)) := cell_later hbel (hc1 k hlt)
      clear hc1
      have hH : w.heap.size < wr.heap.size := by rw [hsz.out]; omega
      have hfr := hrow.frozen k
      have hcl := hrow.cell hlt
      have HR := fun o v => hid ((hrow.set k v).alloc o)
      have HB := fun o v => hid ((hbel.setCell (p := ⟨w.heap.size, k, none⟩) (Nat.le_refl _) v).alloc (by have := hbel.size; simpa using this) o)
      clear hrow hbel
      go_wp2
      go_roundw
      case rel =>
        refine ⟨k + 1, by omega, by go_num, (HR _ _).out.congr ?_, ?_, ?_, (HB _ _).out⟩
        · intro j hj
          by_cases e : j = k
          · subst e
            simp only [if_true, if_pos (Nat.lt_succ_self j), hsz.out]
          · simp only [if_neg e]
            by_cases e2 : j < k
            · rw [if_pos e2, if_pos (by omega)]
            · rw [if_neg e2, if_neg (by omega)]
        · show _ = _
          simp [hsz.out]; omega
        · intro j hj
          by_cases e : j = k
          · subst e
            rw [World.cell?_alloc_at _ _ _ _ (by simp [hsz.out])]
            rfl
          · rw [World.cell?_alloc_past _ _ _ (by simp [hsz.out]; omega), World.cell?_setCell_other _ _ _ _ (by simp)]
            exact hcells.out j (by omega)
      case measure => simp [intOf]; omega
    · obtain rfl : lf = k := by omega
      have HC := hid (hc.out.later hbel)
      have HW : Hid (Row wr (some ⟨w.heap.size, 0, none⟩) lf (fun j => .pointer (some ⟨w.heap.size + 1 + j, 0, none⟩))) := Row.of_rowIs (hrow.congr (by intro j hj; simp [hj]))
      have HV := hid (valueBefore_any b G.n r (fun x => decide (D.pos x ≤ f (cp r * D.S + D.ses x))) fv (fun j => w.heap.size + 1 + j) (some ⟨w.heap.size, 0, none⟩) lf lf wr hlf hfv HW hcells (fun x hx N => by
        have hcN : CA G D bs os ls cs bp op lp cp0 b h g m MS cp f (wr.drewN N) := ⟨HC.out.c0, HC.out.c1, HC.out.c2, HC.out.c4, HC.out.c5, HC.out.le, HC.out.ms, HC.out.d1, HC.out.d2, HC.out.d3, HC.out.d4, HC.out.fil⟩
        exact prec_any hcN hn hS2 hls hlp hls2 hlp2 (fun i hi => (hes.out i hi).1) x r hx hr))
      have HB := hid hbel
      clear hrow hsz hcells hbel HW
      go_wp2_with fail
      refine HV.out.mono ?_
      rintro e w' ⟨v, rfl, hv, N, rfl⟩
      simp only []
      have HVV := hid hv
      clear hv HV
      go_wp2
      go_ret
      refine ⟨v, rfl, HVV.out.trans ?_, below_drewN HB.out _⟩
      constructor
      · rintro ⟨j, hj, h0, hT⟩
        have hx : (fv j).toNat < G.n := by have := hfv.out j hj; omega
        refine ⟨j, hj, (fv j).toNat, by omega, ?_⟩
        have h1 := of_decide_eq_true hT
        exact (HC.out.fil r (D.ses (fv j).toNat) hr (hes.out _ hx).1 _ (hes.out _ hx).2).1 h1
      · rintro ⟨j, hj, x, hx, hL⟩
        have hxn : x < G.n := by have := hfv.out j hj; omega
        refine ⟨j, hj, by omega, ?_⟩
        have e : (fv j).toNat = x := by omega
        rw [e]
        exact decide_eq_true ((HC.out.fil r (D.ses x) hr (hes.out _ hxn).1 _ (hes.out _ hxn).2).2 hL)

theorem drew3 (w : World) (a b c : Nat) : ∃ N, ((w.drewN a).drewN b).drewN c = w.drewN N := ⟨a + (b + c), by rw [World.drewN_drewN, World.drewN_drewN]⟩
theorem drew4 (w : World) (a b c d : Nat) : ∃ N, (((w.drewN a).drewN b).drewN c).drewN d = w.drewN N := ⟨a + (b + (c + d)), by rw [World.drewN_drewN, World.drewN_drewN, World.drewN_drewN]⟩

/-- Places in a session are distinct, and the earlier reaches the later. -/
def InOrder (n : Nat) (ses : Nat → Nat) (pos : Nat → Int) (M : Nat → Bool) : Prop :=
  ∀ x y, x < n → y < n → x ≠ y → ses x = ses y → pos x ≠ pos y ∧ (pos x < pos y → M (x * n + y) = true)

set_option maxHeartbeats 2000000 in
theorem session_any (n : Nat) (aS aP : Option Addr) (ls cs lp cp0 g NN : Nat) (ses : Nat → Nat) (pos : Nat → Int) (M : Nat → Bool) (w : World) (hn : n ≤ 512) (hls : n ≤ ls) (hlp : n ≤ lp) (hls2 : ls ≤ 65536) (hlp2 : lp ≤ 65536) (hNN : NN ≤ 262144) (hNe : Hid (NN = n * n))
    (hse : Hid (Row w aS n (fun i => .int .i64 ((ses i : Nat) : Int)))) (hpo : Hid (Row w aP n (fun i => .int .i32 (pos i)))) (hM : Hid (∀ t, t < NN → w.cell? ⟨g, t, none⟩ = some (.bool (M t)))) :
    Calls Try.prog 24 #[.int .i64 (n : Int), .slice aS ls cs, .slice aP lp cp0, .slice (some ⟨g, 0, none⟩) NN NN] w fun e w' => ∃ v, e = .returned (.bool v) ∧ (v = true → InOrder n ses pos M) ∧ ∃ N, w' = w.drewN N := by
  go_enter Try.func24, Try.ntmps24
  go_wp2
  go_loopw [9] (fun i wr => ∃ (x N : Nat), x ≤ n ∧ i = .int .i64 x ∧ wr = w.drewN N ∧ Hid (∀ x' y, x' < x → y < n → x' ≠ y → ses x' = ses y → pos x' ≠ pos y ∧ (pos x' < pos y → M (x' * n + y) = true))) (fun i _ => n - (intOf i).toNat)
  case atStart => exact ⟨0, 0, Nat.zero_le _, rfl, rfl, fun x' y hx => by omega⟩
  case round =>
    obtain ⟨x, N, hx, rfl, rfl, hall⟩ := hrel
    by_cases hlt : x < n
    · obtain ⟨b1, o1, rfl, hc1⟩ := hse.out (by omega)
      obtain ⟨b2, o2, rfl, hc2⟩ := hpo.out (by omega)
      have HC1 := hid hc1
      have HC2 := hid hc2
      clear hc1 hc2
      go_wp2
      go_loopw [10] (fun i wr => ∃ (y N : Nat), y ≤ n ∧ i = .int .i64 y ∧ wr = w.drewN N ∧ Hid (∀ y', y' < y → x ≠ y' → ses x = ses y' → pos x ≠ pos y' ∧ (pos x < pos y' → M (x * n + y') = true))) (fun i _ => n - (intOf i).toNat)
      case atStart => exact ⟨0, N, Nat.zero_le _, rfl, rfl, fun y' hy => by omega⟩
      case round =>
        obtain ⟨y, N2, hy, rfl, rfl, hrow⟩ := hrel
        by_cases hlt2 : y < n
        · have s1 : w.cell? ⟨b1, o1 + x, none⟩ = some (.int .i64 ((ses x : Nat) : Int)) := HC1.out x (by omega)
          have s2 : w.cell? ⟨b1, o1 + y, none⟩ = some (.int .i64 ((ses y : Nat) : Int)) := HC1.out y (by omega)
          have p1 : w.cell? ⟨b2, o2 + x, none⟩ = some (.int .i32 (pos x)) := HC2.out x (by omega)
          have p2 : w.cell? ⟨b2, o2 + y, none⟩ = some (.int .i32 (pos y)) := HC2.out y (by omega)
          obtain ⟨P, hP⟩ : ∃ P : Nat, P = x * n := ⟨_, rfl⟩
          have hPI : (x : Int) * (n : Int) = (P : Int) := by rw [hP]; simp
          have hPN : P + y < NN := by rw [hP, hNe.out]; exact flat_lt hlt2 hlt
          have m1 : w.cell? ⟨g, P + y, none⟩ = some (.bool (M (P + y))) := hM.out _ hPN
          have HP := hid hP
          clear hP
          have i1 : (x : Int) < (ls : Int) := by omega
          have i2 : (y : Int) < (ls : Int) := by omega
          have i3 : (x : Int) < (lp : Int) := by omega
          have i4 : (y : Int) < (lp : Int) := by omega
          have i5 : (P : Int) + (y : Int) < (NN : Int) := by omega
          by_cases hxy : x = y
          · have e1 : ((x : Int) == (y : Int)) = true := by simp [hxy]
            have e2 : (x : Int) = (y : Int) := by omega
            go_wp2
            go_quiet (fail)
            go_wp2
            go_roundw
            case rel => exact ⟨y + 1, _, by omega, by go_num, rfl, fun y' hy' hne he => by
              by_cases e : y' = y
              · exact absurd (hxy.trans e.symm) hne
              · exact hrow.out y' (by omega) hne he⟩
            case measure => simp [intOf]; omega
          · have e1 : ((x : Int) == (y : Int)) = false := by simp; omega
            by_cases hss : ses x = ses y
            · have e2 : (((ses x : Nat) : Int) != ((ses y : Nat) : Int)) = false := by simp [hss]
              by_cases hpp : pos x = pos y
              · have e3 : (pos x == pos y) = true := by simp [hpp]
                go_wp2
                go_quiet (fail)
                go_wp2
                go_quiet (fail)
                go_wp2
                go_ret
                exact ⟨false, rfl, fun h => Bool.noConfusion h, by first | exact drew3 .. | exact drew4 ..⟩
              · have e3 : (pos x == pos y) = false := by simp [hpp]
                by_cases hpl : pos x < pos y
                · cases hMM : M (P + y) with
                  | true =>
                    rw [hMM] at m1
                    go_wp2
                    go_quiet (fail)
                    go_wp2
                    go_quiet (fail)
                    go_wp2
                    go_quiet (fail)
                    go_wp2
                    go_roundw
                    case rel => exact ⟨y + 1, _, by omega, by go_num, rfl, fun y' hy' hne he => by
                      by_cases e : y' = y
                      · rw [e]; exact ⟨hpp, fun _ => by rw [← HP.out]; exact hMM⟩
                      · exact hrow.out y' (by omega) hne he⟩
                    case measure => simp [intOf]; omega
                  | false =>
                    rw [hMM] at m1
                    go_wp2
                    go_quiet (fail)
                    go_wp2
                    go_quiet (fail)
                    go_wp2
                    go_quiet (fail)
                    go_wp2
                    go_ret
                    exact ⟨false, rfl, fun h => Bool.noConfusion h, by first | exact drew3 .. | exact drew4 ..⟩
                · have e4 : decide (pos x < pos y) = false := by simp; omega
                  go_wp2
                  go_quiet (fail)
                  go_wp2
                  go_quiet (fail)
                  go_wp2
                  go_quiet (fail)
                  go_wp2
                  go_roundw
                  case rel => exact ⟨y + 1, _, by omega, by go_num, rfl, fun y' hy' hne he => by
                    by_cases e : y' = y
                    · rw [e]; exact ⟨hpp, fun h => by omega⟩
                    · exact hrow.out y' (by omega) hne he⟩
                  case measure => simp [intOf]; omega
            · have e2 : (((ses x : Nat) : Int) != ((ses y : Nat) : Int)) = true := by simp; omega
              go_wp2
              go_quiet (fail)
              go_wp2
              go_roundw
              case rel => exact ⟨y + 1, _, by omega, by go_num, rfl, fun y' hy' hne he => by
                by_cases e : y' = y
                · rw [e] at he; exact absurd he hss
                · exact hrow.out y' (by omega) hne he⟩
              case measure => simp [intOf]; omega
        · obtain rfl : n = y := by omega
          go_wp2
          go_roundw
          case rel => exact ⟨x + 1, N2, by omega, by go_num, rfl, fun x' y hx' hy' hne he => by
            by_cases e : x' = x
            · subst e; exact hrow.out y hy' hne he
            · exact hall.out x' y (by omega) hy' hne he⟩
          case measure => simp [intOf]; omega
    · obtain rfl : n = x := by omega
      go_wp2
      go_ret
      exact ⟨true, rfl, fun _ => hall.out, _, rfl⟩

end Go.Proofs.Qxb6602016a
