/-
  THE WALKS of seat b6602016a, fifth part: newCausalOrder.
-/
import Derived.Test.Qxb6602016aW4
import Derived.Test.Qxb6602016aTab2
namespace Go.Proofs.Qxb6602016a
open Go.RowKit Tar
set_option linter.unusedVariables false

/-- Outside block g nothing has turned. -/
def Off (g : Nat) (w wr : World) : Prop := ∀ a : Addr, a.block ≠ g → wr.cell? a = w.cell? a
theorem Off.refl (g : Nat) (w : World) : Off g w w := fun _ _ => rfl
theorem Off.set {g : Nat} {w wr : World} (h : Off g w wr) (i : Nat) (v : Value) : Off g w (wr.setCell ⟨g, i, none⟩ v) := fun a ha => by
  rw [World.cell?_setCell_other _ _ _ _ (by intro e; exact ha (by rw [← e]))]
  exact h a ha
theorem Off.drewN {g : Nat} {w wr : World} (h : Off g w wr) (m : Nat) : Off g w (wr.drewN m) := fun a ha => h a ha

/-- The maximum as Go reckons it. -/
theorem if_max (a b : Int) : (if a < b then b else a) = max a b := by split <;> omega

/-- Behind the turn the components fall. -/
theorem ord_down {order : List Nat} {comp : Nat → Int} (h : order.Pairwise fun a b => comp a ≤ comp b) (p q : Nat) (hpq : p < q) (hq : q < order.reverse.length) : comp (order.reverse.getD q 0) ≤ comp (order.reverse.getD p 0) := by
  have h2 : order.reverse.Pairwise fun a b => comp b ≤ comp a := List.pairwise_reverse.2 h
  have h3 := List.pairwise_iff_getElem.1 h2 p q (by omega) hq hpq
  have e1 : order.reverse.getD q 0 = order.reverse[q] := by simp [List.getD, List.getElem?_eq_getElem hq]
  have e2 : order.reverse.getD p 0 = order.reverse[p] := by rw [List.getD, List.getElem?_eq_getElem (by omega)]; rfl
  rw [e1, e2]
  exact h3

theorem ord_mem {order : List Nat} (q : Nat) (hq : q < order.reverse.length) : order.reverse.getD q 0 ∈ order := by
  have e1 : order.reverse.getD q 0 = order.reverse[q] := by simp [List.getD, List.getElem?_eq_getElem hq]
  rw [e1, ← List.mem_reverse]
  exact List.getElem_mem hq

theorem ord_all {order : List Nat} (x : Nat) (hx : x ∈ order) : ∃ p, p < order.reverse.length ∧ order.reverse.getD p 0 = x := by
  rw [← List.mem_reverse] at hx
  obtain ⟨p, hp, e⟩ := List.getElem_of_mem hx
  refine ⟨p, hp, ?_⟩
  rw [List.getD, List.getElem?_eq_getElem hp]
  exact e

/-- THE CAUSAL ORDER IN MEMORY. -/
def Caus (G : Gr) (D : Src) (vs vp : Value) (v : Value) (w : World) : Prop :=
  ∃ (b h g m MS : Nat) (cp : Nat → Nat) (f : Nat → Int), v = .pointer (some ⟨b, 0, none⟩) ∧ w.cell? ⟨b, 0, none⟩ = some vs ∧ w.cell? ⟨b, 1, none⟩ = some vp ∧ w.cell? ⟨b, 2, none⟩ = some (.slice (some ⟨h, 0, none⟩) G.n G.n) ∧
    w.cell? ⟨b, 4, none⟩ = some (.int .i64 (D.S : Int)) ∧ w.cell? ⟨b, 5, none⟩ = some (.slice (some ⟨g, 0, none⟩) MS MS) ∧ MS ≤ 1048576 ∧ MS = m * D.S ∧ (∀ i, i < G.n → cp i < m ∧ w.cell? ⟨h, i, none⟩ = some (.int .i64 ((cp i : Nat) : Int))) ∧
    (∀ x, x < MS → w.cell? ⟨g, x, none⟩ = some (.int .i32 (f x))) ∧ Filled G D cp f

theorem Caus.later {G : Gr} {D : Src} {vs vp v : Value} {w w' : World} (h : Caus G D vs vp v w) (hb : Below w.heap.size w w') : Caus G D vs vp v w' := by
  obtain ⟨b, h, g, m, MS, cp, f, h1, h2, h3, h4, h5, h6, h7, h8, h9, h10, h11⟩ := h
  exact ⟨b, h, g, m, MS, cp, f, h1, cell_later hb h2, cell_later hb h3, cell_later hb h4, cell_later hb h5, cell_later hb h6, h7, h8, fun i hi => ⟨(h9 i hi).1, cell_later hb (h9 i hi).2⟩, fun x hx => cell_later hb (h10 x hx), h11⟩

/-- An own slice of numbers, read. -/
theorem own_read {w : World} {base : Nat} {v : Value} {l : List Nat} (h : w.ownsRow base 3 1 v l.length (l.map iv)) :
    ∃ a c, v = .slice a l.length c ∧ (0 < l.length → ∃ b, a = some ⟨b, 0, none⟩ ∧ base ≤ b ∧ b < w.heap.size ∧ ∀ p, p < l.length → w.cell? ⟨b, p, none⟩ = some (iv (l.getD p 0))) := by
  by_cases h0 : 0 < l.length
  · obtain ⟨g, cap, rfl, hb, _⟩ := h.form h0
    have hlt := h.lt g rfl
    refine ⟨_, _, rfl, fun _ => ⟨g, rfl, hb, hlt.2, fun p hp => ?_⟩⟩
    rw [h.cellAt p (by omega)]
    simp [List.getD, List.getElem?_eq_getElem hp]
  · rcases h.2 with ⟨h1, h2⟩ | ⟨g, cap, cur, h1, _⟩
    · exact ⟨_, _, by rw [h1, h2], fun x => absurd x h0⟩
    · exact ⟨_, _, h1, fun x => absurd x h0⟩

set_option maxRecDepth 100000 in
set_option maxHeartbeats 4000000 in
theorem order_any (a : Option Addr) (n c : Nat) (deg : Nat → Nat) (A : Nat → Option Addr) (C : Nat → Nat) (Z : Nat → Nat → Int) (E : Nat → Nat → Nat) (aS aP : Option Addr) (ls cs lp cp0 S : Nat) (ses : Nat → Nat) (pos : Nat → Int) (w : World) (hn : n ≤ 512) (hS : Hid (Succ w a n deg A C Z))
    (hE : Hid (∀ i, i < n → ∀ k, k < deg i → Z i k = (E i k : Int) ∧ E i k < n)) (hls : n ≤ ls) (hlp : n ≤ lp) (hls2 : ls ≤ 65536) (hlp2 : lp ≤ 65536) (hS2 : S ≤ 65536) (hnS : Hid (n * S ≤ 1048576))
    (hse : Hid (Row w aS n (fun i => .int .i64 ((ses i : Nat) : Int)))) (hpo : Hid (Row w aP n (fun i => .int .i32 (pos i)))) (hes : Hid (∀ i, i < n → ses i < S ∧ 0 ≤ pos i)) :
    Calls Try.prog 26 #[.slice a n c, .slice aS ls cs, .slice aP lp cp0, .int .i64 (S : Int)] w fun e w' => ∃ v, e = .returned v ∧ Caus (Gr.mk n deg E) ⟨S, ses, pos⟩ (.slice aS ls cs) (.slice aP lp cp0) v w' ∧ Below w.heap.size w w' := by
  go_enter Try.func26, Try.ntmps26
  go_wp2_with fail
  refine (strong_any a n c deg A C Z E w hn hS hE).mono ?_
  rintro e w1 ⟨comp, m, order, vo, rfl, hD, hrc, hoo, hB⟩
  simp only []
  have hmn : m ≤ n := hD.le
  obtain ⟨MS, hMS⟩ : ∃ MS : Nat, MS = m * S := ⟨_, rfl⟩
  have hMI : (m : Int) * (S : Int) = (MS : Int) := by rw [hMS]; simp
  have hMle : MS ≤ 1048576 := by rw [hMS]; exact Nat.le_trans (Nat.mul_le_mul_right S hmn) hnS.out
  have hmk := run_make_row' (P := Try.prog) 30 21 (.int .i32 0) 4 Try.underlying30 Try.info21 rfl .i64 .i64 MS (by omega) (by omega)
  have HMS := hid hMS
  have HD := hid hD
  have HC := hid hrc
  have HO := hid hoo
  have HB := hid hB
  clear hMS hD hrc hoo hB
  obtain ⟨cp, hcpd⟩ : ∃ cp : Nat → Nat, cp = fun i => if i < n then (comp i).toNat else n + i := ⟨_, rfl⟩
  have hci : Hid (∀ i, i < n → comp i = ((cp i : Nat) : Int) ∧ cp i < m) := by
    intro i hi
    have := HD.out.lo i hi
    rw [hcpd]
    simp only [if_pos hi]
    omega
  have hsame : Hid (∀ x y, x < n → cp x = cp y → (Gr.mk n deg E).reach x y) := fun x y hx he => by
    by_cases hy : y < n
    · exact HD.out.same x y hx (by rw [(hci.out x hx).1, (hci.out y hy).1, he])
    · have h1 := (hci.out x hx).2
      have h2 : cp y = n + y := by rw [hcpd]; simp only [if_neg hy]
      omega
  clear hcpd
  have hwlt := HC.out.lt
  obtain ⟨aO, cO, rfl, hOr⟩ := own_read (l := order.reverse) (by have := HO.out; rw [List.length_reverse]; exact this)
  have HOR := hid hOr
  clear hOr HO
  obtain ⟨lO, hlO⟩ : ∃ lO, lO = order.reverse.length := ⟨_, rfl⟩
  have hlO2 : lO ≤ 512 := by rw [hlO, List.length_reverse]; exact Nat.le_trans HD.out.len hn
  rw [← hlO] at HOR ⊢
  have HLO := hid hlO
  clear hlO
  go_wp2
  clear hmk
  obtain ⟨w2, hw2⟩ : ∃ w2 : World, w2 = (w1.alloc (.cells (madeCells #[.int .i32 0] MS) 21)).alloc (.cells #[.slice aS ls cs, .slice aP lp cp0, .slice (some ⟨w.heap.size, 0, none⟩) n n, .int .i64 (m : Int), .int .i64 (S : Int), .slice (some ⟨w1.heap.size, 0, none⟩) MS MS] 51) := ⟨_, rfl⟩
  have HRow : Hid (w2.rowIs w1.heap.size 21 MS (fun _ => .int .i32 0)) := by
    rw [hw2]; exact (World.rowIs_made w1 (.int .i32 0) MS 21).alloc _
  have HSt : Hid (∀ j v, #[Value.slice aS ls cs, .slice aP lp cp0, .slice (some ⟨w.heap.size, 0, none⟩) n n, .int .i64 (m : Int), .int .i64 (S : Int), .slice (some ⟨w1.heap.size, 0, none⟩) MS MS][j]? = some v → w2.cell? ⟨w1.heap.size + 1, j, none⟩ = some v) := by
    intro j v hv
    rw [hw2]
    rw [World.cell?_alloc_at _ _ _ _ (by simp)]; exact hv
  have HB2 : Hid (Below w.heap.size w w2) := by
    rw [hw2]; exact (HB.out.alloc HB.out.size _).alloc (by have := HB.out.size; simp; omega) _
  have HK : Hid (∀ b i v, b < w1.heap.size → w1.cell? ⟨b, i, none⟩ = some v → w2.cell? ⟨b, i, none⟩ = some v) := by
    intro b i v hb hv
    rw [hw2, World.cell?_alloc_past _ _ _ (by simp; omega), World.cell?_alloc_past _ _ _ hb]; exact hv
  rw [← hw2]
  clear hw2
  go_loopw [47] (fun i wr => ∃ k : Nat, k ≤ MS ∧ i = .int .i64 k ∧ wr.rowIs w1.heap.size 21 MS (fun j => if j < k then .int .i32 (-1) else .int .i32 0) ∧ Hid (Off w1.heap.size w2 wr) ∧ Below w.heap.size w wr) (fun i _ => MS - (intOf i).toNat)
  case atStart => exact ⟨0, Nat.zero_le _, rfl, HRow.out.congr (by simp), Off.refl _ _, HB2.out⟩
  case round =>
    obtain ⟨k, hk, rfl, hrow, hoff, hbel⟩ := hrel
    have c5 : wr.cell? ⟨w1.heap.size + 1, 5, none⟩ = some (.slice (some ⟨w1.heap.size, 0, none⟩) MS MS) := by rw [hoff.out _ (by simp)]; exact HSt.out 5 _ rfl
    by_cases hlt : k < MS
    · have hfr := hrow.frozen k
      have hcl := hrow.cell hlt
      have HR := hid (hrow.set k (.int .i32 (-1)))
      have HF := hid (hoff.out.set k (.int .i32 (-1)))
      have HB := hid (hbel.setCell (p := ⟨w1.heap.size, k, none⟩) (by show w.heap.size ≤ w1.heap.size; omega) (.int .i32 (-1)))
      clear hrow hbel hoff
      go_wp2
      go_roundw
      case rel =>
        refine ⟨k + 1, by omega, by go_num, HR.out.congr ?_, HF, HB.out⟩
        intro j hj
        by_cases e : j = k
        · subst e; simp
        · simp only [if_neg e]
          by_cases e2 : j < k
          · rw [if_pos e2, if_pos (by omega)]
          · rw [if_neg e2, if_neg (by omega)]
      case measure => simp [intOf]; omega
    · obtain rfl : MS = k := by omega
      have HR1 : Hid (wr.rowIs w1.heap.size 21 MS (fun j => .int .i32 (-1))) := hrow.congr (by intro j hj; simp [hj])
      have HF1 := hid hoff.out
      have HB1 := hid hbel
      clear hrow hoff hbel HRow HB2 hk hlt
      go_wp2
      obtain ⟨wa, rfl⟩ : ∃ wa : World, wa = wr := ⟨_, rfl⟩
      clear c5
      go_loopw [59] (fun i wr => ∃ (k : Nat) (f : Nat → Int), k ≤ n ∧ i = .int .i64 k ∧ wr.rowIs w1.heap.size 21 MS (fun j => .int .i32 (f j)) ∧ Hid (Sound (Gr.mk n deg E) ⟨S, ses, pos⟩ cp m f) ∧ Hid (Own ⟨S, ses, pos⟩ cp k f) ∧ Hid (Off w1.heap.size w2 wr) ∧ Below w.heap.size w wr) (fun i _ => n - (intOf i).toNat)
      case atStart => exact ⟨0, fun _ => -1, Nat.zero_le _, rfl, HR1.out, Sound.start _ _ _ _, fun i hi => by omega, HF1, HB1.out⟩
      case round =>
        obtain ⟨k, f, hk, rfl, hrow, hsnd, hown, hoff, hbel⟩ := hrel
        clear HR1 HF1 HB1
        by_cases hlt : k < n
        · have c5 : wr.cell? ⟨w1.heap.size + 1, 5, none⟩ = some (.slice (some ⟨w1.heap.size, 0, none⟩) MS MS) := by rw [hoff.out _ (by simp)]; exact HSt.out 5 _ rfl
          obtain ⟨hc1, hc2⟩ := hci.out k hlt
          obtain ⟨hs1, hs2⟩ := hes.out k hlt
          have d1 : wr.cell? ⟨w.heap.size, k, none⟩ = some (.int .i64 ((cp k : Nat) : Int)) := by
            rw [hoff.out _ (by simp; omega)]
            refine HK.out _ _ _ (by omega) ?_
            rw [← hc1]; exact HC.out.cell hlt
          obtain ⟨b1, o1, rfl, hcs⟩ := hse.out (by omega)
          have d2 : wr.cell? ⟨b1, o1 + k, none⟩ = some (.int .i64 ((ses k : Nat) : Int)) := cell_later hbel (hcs k (by omega))
          obtain ⟨b2, o2, rfl, hcs2⟩ := hpo.out (by omega)
          have d3 : wr.cell? ⟨b2, o2 + k, none⟩ = some (.int .i32 (pos k)) := cell_later hbel (hcs2 k (by omega))
          clear hcs hcs2
          obtain ⟨P, hP⟩ : ∃ P : Nat, P = cp k * S := ⟨_, rfl⟩
          have hPI : ((cp k : Nat) : Int) * (S : Int) = (P : Int) := by rw [hP]; simp
          obtain ⟨X, hX⟩ : ∃ X : Nat, X = P + ses k := ⟨_, rfl⟩
          have hXI : (P : Int) + ((ses k : Nat) : Int) = (X : Int) := by rw [hX]; simp
          have hXlt : X < MS := by rw [hX, hP, HMS.out]; exact flat_lt hs1 hc2
          have hPle : P ≤ X := by omega
          have HX : Hid (X = cp k * S + ses k) := by rw [hX, hP]; exact rfl
          have hsl : (k : Int) < (ls : Int) := by omega
          have hpl : (k : Int) < (lp : Int) := by omega
          have hXI2 : (X : Int) < (MS : Int) := by omega
          clear hP hX
          have hfr := hrow.frozen X
          have hcl := hrow.cell hXlt
          have HR := fun v => hid (row_upd (mk := Value.int .i32) (hrow.set X (.int .i32 v)))
          clear hrow
          go_wp2
          go_region
          go_wp2
          go_roundw
          case rel =>
            refine ⟨k + 1, upd f X (if f X < pos k then pos k else f X), by omega, by go_num, (HR _).out, ?_, ?_, ?_, ?_⟩
            · have h1 := hsnd.out.own hsame.out k hlt hs1
              show Sound _ _ _ _ _
              rw [if_max, HX.out]
              exact h1
            · show Own _ _ _ _
              rw [if_max, HX.out]
              exact hown.out.step
            · exact (hoff.out.set X _).drewN 1
            · exact below_drewN (hbel.setCell (p := ⟨w1.heap.size, X, none⟩) (by show w.heap.size ≤ w1.heap.size; omega) _) 1
          case measure => simp [intOf]; omega
        · obtain rfl : n = k := by omega
          obtain ⟨o, ho⟩ : ∃ o : Nat → Nat, o = fun p => order.reverse.getD p 0 := ⟨_, rfl⟩
          have hon : Hid (∀ p, p < lO → o p < n) := fun p hp => by
            rw [ho]
            exact (HD.out.mem _).1 (ord_mem p (by rw [← HLO.out]; exact hp))
          have hod : Hid (∀ p q, p < q → q < lO → comp (o q) ≤ comp (o p)) := fun p q hpq hq => by
            rw [ho]
            exact ord_down HD.out.srt p q hpq (by rw [← HLO.out]; exact hq)
          have hoa : Hid (∀ x, x < n → ∃ p, p < lO ∧ o p = x) := fun x hx => by
            obtain ⟨p, hp, e⟩ := ord_all x ((HD.out.mem x).2 hx)
            rw [ho, HLO.out]
            exact ⟨p, hp, e⟩
          have hoc : Hid (0 < lO → ∃ b, aO = some ⟨b, 0, none⟩ ∧ w.heap.size + 3 ≤ b ∧ b < w1.heap.size ∧ ∀ p, p < lO → w1.cell? ⟨b, p, none⟩ = some (iv (o p))) := by rw [ho]; exact HOR.out
          clear ho HOR
          have HT0 : Hid (Tb (Gr.mk n deg E) ⟨S, ses, pos⟩ cp m o 0 0 0 0 f) := Tb.start hsnd.out hown.out 0
          have HR0 := hid hrow
          have HF0 := hid hoff.out
          have HB0 := hid hbel
          clear hrow hoff hbel hsnd hown hk hlt
          go_wp2
          obtain ⟨wb, rfl⟩ : ∃ wb : World, wb = wr := ⟨_, rfl⟩
          go_loopw [93] (fun i wr => ∃ (k : Nat) (f : Nat → Int), k ≤ lO ∧ i = .int .i64 k ∧ wr.rowIs w1.heap.size 21 MS (fun j => .int .i32 (f j)) ∧ Hid (Tb (Gr.mk n deg E) ⟨S, ses, pos⟩ cp m o k 0 0 0 f) ∧ Hid (Off w1.heap.size w2 wr) ∧ Below w.heap.size w wr) (fun i _ => lO - (intOf i).toNat)
          case atStart => exact ⟨0, f, Nat.zero_le _, rfl, HR0.out, HT0, HF0, HB0.out⟩
          case round =>
            clear HR0 HT0 HF0 HB0
            obtain ⟨k, f, hk, rfl, hrow, htb, hoff, hbel⟩ := hrel
            by_cases hlt : k < lO
            · have c5 : wr.cell? ⟨w1.heap.size + 1, 5, none⟩ = some (.slice (some ⟨w1.heap.size, 0, none⟩) MS MS) := by rw [hoff.out _ (by simp)]; exact HSt.out 5 _ rfl
              obtain ⟨i, hi⟩ : ∃ i, i = o k := ⟨_, rfl⟩
              have hin : i < n := by rw [hi]; exact hon.out k hlt
              have HI := hid hi
              clear hi
              obtain ⟨bO, rfl, hbO1, hbO2, hcO⟩ := hoc.out (by omega)
              have d0 : wr.cell? ⟨bO, k, none⟩ = some (.int .i64 ((i : Nat) : Int)) := by
                rw [hoff.out _ (by simp; omega), HI.out]
                exact HK.out _ _ _ hbO2 (hcO k hlt)
              obtain ⟨hc1, hc2⟩ := hci.out i hin
              have d1 : wr.cell? ⟨w.heap.size, i, none⟩ = some (.int .i64 ((cp i : Nat) : Int)) := by
                rw [hoff.out _ (by simp; omega)]
                refine HK.out _ _ _ (by omega) ?_
                rw [← hc1]; exact HC.out.cell hin
              obtain ⟨b0, o0, rfl, hc0⟩ := hS.out.top (by omega)
              obtain ⟨ai, hai⟩ : ∃ ai, ai = A i := ⟨_, rfl⟩
              have g0 : wr.cell? ⟨b0, o0 + i, none⟩ = some (.slice ai (deg i) (C i)) := by rw [hai]; exact cell_later hbel (hc0 i hin)
              have HAI := hid hai
              have hdi := hS.out.deg i hin
              obtain ⟨P, hP⟩ : ∃ P : Nat, P = cp i * S := ⟨_, rfl⟩
              have hPI : ((cp i : Nat) : Int) * (S : Int) = (P : Int) := by rw [hP]; simp
              have hPI2 : (((cp i : Nat) : Int) + 1) * (S : Int) = (P : Int) + (S : Int) := by rw [Int.add_mul, hPI]; omega
              have hPM : P + S ≤ MS := by
                rw [hP, HMS.out]
                have := Nat.mul_le_mul_right S (show cp i + 1 ≤ m from hc2)
                rw [Nat.add_mul] at this
                omega
              have HP := hid hP
              have hiI : (i : Int) < (n : Int) := by omega
              have hcI : ((cp i : Nat) : Int) < (m : Int) := by omega
              have hPM2 : (P : Int) + (S : Int) ≤ (MS : Int) := by omega
              have hS1 : 0 < S := by have := (hes.out i hin).1; omega
              have hPlt : P < MS := by omega
              have hPlt2 : (P : Int) < (MS : Int) := by omega
              clear hc1 hai hP hc0 hcO
              have HR0 := hid hrow
              have HT0 : Hid (Tb (Gr.mk n deg E) ⟨S, ses, pos⟩ cp m o k i 0 0 f) := htb.out.at i
              have HF0 := hid hoff.out
              have HB0 := hid hbel
              clear hrow htb hoff hbel
              go_wp2
              go_quiet (fail)
              go_wp2
              obtain ⟨wc, hwc⟩ : ∃ wc : World, wc = wr.drewN nq := ⟨_, rfl⟩
              have HR1 : Hid (wc.rowIs w1.heap.size 21 MS (fun j => .int .i32 (f j))) := by rw [hwc]; exact HR0.out
              have HF1 : Hid (Off w1.heap.size w2 wc) := by rw [hwc]; exact HF0.out.drewN _
              have HB1 : Hid (Below w.heap.size w wc) := by rw [hwc]; exact below_drewN HB0.out _
              rw [← hwc, show P + S - P = S by omega]
              clear hwc HR0 HF0 HB0 c5 d0 d1 g0
              go_loopw [120] (fun jv wr => ∃ (e : Nat) (f : Nat → Int), e ≤ deg i ∧ jv = .int .i64 e ∧ wr.rowIs w1.heap.size 21 MS (fun j => .int .i32 (f j)) ∧ Hid (Tb (Gr.mk n deg E) ⟨S, ses, pos⟩ cp m o k i e 0 f) ∧ Hid (Off w1.heap.size w2 wr) ∧ Below w.heap.size w wr) (fun jv _ => deg i - (intOf jv).toNat)
              case atStart => exact ⟨0, f, Nat.zero_le _, rfl, HR1.out, HT0, HF1, HB1.out⟩
              case round =>
                clear HR1 HT0 HF1 HB1
                obtain ⟨e, f, hed, rfl, hrow, htb, hoff, hbel⟩ := hrel
                by_cases hlt2 : e < deg i
                · obtain ⟨bA, oA, hA, hcA⟩ := hS.out.row i hin (by omega)
                  have hai : ai = some ⟨bA, oA, none⟩ := HAI.out.trans hA
                  subst hai
                  have c5 : wr.cell? ⟨w1.heap.size + 1, 5, none⟩ = some (.slice (some ⟨w1.heap.size, 0, none⟩) MS MS) := by rw [hoff.out _ (by simp)]; exact HSt.out 5 _ rfl
                  have g1 : wr.cell? ⟨bA, oA + e, none⟩ = some (.int .i64 (Z i e)) := cell_later hbel (hcA e hlt2)
                  obtain ⟨hz, hj⟩ := hE.out i hin e hlt2
                  rw [hz] at g1
                  obtain ⟨j, hjj⟩ : ∃ j, j = E i e := ⟨_, rfl⟩
                  rw [← hjj] at g1 hj
                  have HJ := hid hjj
                  clear hjj hz hcA hA
                  obtain ⟨hcj1, hcj2⟩ := hci.out j hj
                  have hci1 := (hci.out i hin).1
                  have d1 : wr.cell? ⟨w.heap.size, i, none⟩ = some (.int .i64 ((cp i : Nat) : Int)) := by
                    rw [hoff.out _ (by simp; omega)]
                    refine HK.out _ _ _ (by omega) ?_
                    rw [← hci1]; exact HC.out.cell hin
                  have d2 : wr.cell? ⟨w.heap.size, j, none⟩ = some (.int .i64 ((cp j : Nat) : Int)) := by
                    rw [hoff.out _ (by simp; omega)]
                    refine HK.out _ _ _ (by omega) ?_
                    rw [← hcj1]; exact HC.out.cell hj
                  have hjI : (j : Int) < (n : Int) := by omega
                  have hdown : Hid (cp j ≤ cp i) := by
                    have h1 := HD.out.down i e hin hlt2
                    have h2 : comp (E i e) ≤ comp i := h1
                    rw [← HJ.out, hcj1, hci1] at h2
                    show _ ≤ _
                    omega
                  clear hcj1 hci1
                  by_cases hcc : cp j = cp i
                  · have hccI : ((cp j : Nat) : Int) = ((cp i : Nat) : Int) := by omega
                    have HR1 := hid hrow
                    have HF1 := hid hoff.out
                    have HB1 := hid hbel
                    clear hrow hoff hbel
                    go_wp2
                    go_quiet (fail)
                    go_wp2
                    go_roundw
                    case rel => exact ⟨e + 1, f, by omega, by go_num, HR1.out, htb.out.same (by show cp (E i e) = cp i; rw [← HJ.out]; exact hcc), HF1.out.drewN _, below_drewN HB1.out _⟩
                    case measure => simp [intOf]; omega
                  · have hccI : ¬ ((cp j : Nat) : Int) = ((cp i : Nat) : Int) := by omega
                    have HR1 := hid hrow
                    have HF1 := hid hoff.out
                    have HB1 := hid hbel
                    clear hrow hoff hbel
                    obtain ⟨R, hR⟩ : ∃ R : Nat, R = cp j * S := ⟨_, rfl⟩
                    have hRI : ((cp j : Nat) : Int) * (S : Int) = (R : Int) := by rw [hR]; simp
                    have hRI2 : (((cp j : Nat) : Int) + 1) * (S : Int) = (R : Int) + (S : Int) := by rw [Int.add_mul, hRI]; omega
                    have hRM : R + S ≤ MS := by
                      rw [hR, HMS.out]
                      have := Nat.mul_le_mul_right S (show cp j + 1 ≤ m from hcj2)
                      rw [Nat.add_mul] at this
                      omega
                    have HRR := hid hR
                    clear hR
                    have hcjI : ((cp j : Nat) : Int) < (m : Int) := by omega
                    have hRM2 : (R : Int) + (S : Int) ≤ (MS : Int) := by omega
                    have hRlt : R < MS := by omega
                    have hRlt2 : (R : Int) < (MS : Int) := by omega
                    have hRP : Hid (∀ s s', s < S → s' < S → P + s ≠ R + s') := fun s s' h1 h2 x => by
                      rw [HP.out, HRR.out] at x
                      exact hcc (flat_inj h1 h2 x).1.symm
                    go_wp2
                    go_quiet (fail)
                    go_wp2
                    go_quiet (fail)
                    go_wp2
                    rw [show R + S - R = S by omega]
                    generalize hwd : World.drewN wr _ = wd
                    have HR2 : Hid (wd.rowIs w1.heap.size 21 MS (fun j => .int .i32 (f j))) := by rw [← hwd]; exact HR1.out
                    have HF2 : Hid (Off w1.heap.size w2 wd) := by rw [← hwd]; exact HF1.out.drewN _
                    have HB2 : Hid (Below w.heap.size w wd) := by rw [← hwd]; exact below_drewN HB1.out _
                    clear hwd HR1 HF1 HB1 c5 g1 d1 d2
                    go_loopw [153] (fun jv wr => ∃ (s : Nat) (f : Nat → Int), s ≤ S ∧ jv = .int .i64 s ∧ wr.rowIs w1.heap.size 21 MS (fun j => .int .i32 (f j)) ∧ Hid (Tb (Gr.mk n deg E) ⟨S, ses, pos⟩ cp m o k i e s f) ∧ Hid (Off w1.heap.size w2 wr) ∧ Below w.heap.size w wr) (fun jv _ => S - (intOf jv).toNat)
                    case atStart => exact ⟨0, f, Nat.zero_le _, rfl, HR2.out, htb, HF2, HB2.out⟩
                    case round =>
                      clear HR2 HF2 HB2 htb
                      obtain ⟨s, f, hs, rfl, hrow, htb, hoff, hbel⟩ := hrel
                      by_cases hlt3 : s < S
                      · have d1 := hrow.cell (i := P + s) (by omega)
                        have d2 := hrow.cell (i := R + s) (by omega)
                        have f2 := hrow.frozen (R + s)
                        have HR3 := fun v => hid (row_upd (mk := Value.int .i32) (hrow.set (R + s) (.int .i32 v)))
                        have HF3 := fun v => hid (hoff.out.set (R + s) v)
                        have HB3 := fun v => hid (hbel.setCell (p := ⟨w1.heap.size, R + s, none⟩) (by show w.heap.size ≤ w1.heap.size; omega) v)
                        have HT3 : Hid (Tb (Gr.mk n deg E) ⟨S, ses, pos⟩ cp m o k i e (s + 1) (upd f (R + s) (if f (R + s) < f (P + s) then f (P + s) else f (R + s)))) := by
                          have h1 := htb.out.store (fun x hx => (hes.out x hx).2) hsame.out hin hlt2 (by show E i e < n; rw [← HJ.out]; exact hj) hc2 (by show cp (E i e) < m; rw [← HJ.out]; exact hcj2) hlt3 (by show cp (E i e) ≠ cp i; rw [← HJ.out]; exact hcc) (by
                            intro p hp
                            show cp (o p) ≠ cp (E i e)
                            rw [← HJ.out]
                            have h2 := hod.out p k hp hlt
                            rw [← HI.out, (hci.out i hin).1, (hci.out (o p) (hon.out p (by omega))).1] at h2
                            have h3 := hdown.out
                            omega)
                          simp only [← HJ.out, ← HP.out, ← HRR.out] at h1
                          rw [if_max]
                          exact h1
                        clear hrow hoff hbel
                        go_wp2
                        go_roundw
                        case rel => exact ⟨s + 1, _, by omega, by go_num, (HR3 _).out, HT3, HF3 _, (HB3 _).out⟩
                        case measure => simp [intOf]; omega
                      · obtain rfl : S = s := by omega
                        have HR1 := hid hrow
                        have HF1 := hid hoff.out
                        have HB1 := hid hbel
                        have HT1 : Hid (Tb (Gr.mk n deg E) ⟨S, ses, pos⟩ cp m o k i (e + 1) 0 f) := Tb.edge htb.out
                        clear hrow hoff hbel
                        go_wp2
                        go_roundw
                        case rel =>
                          exact ⟨e + 1, f, by omega, by go_num, HR1.out, HT1, HF1, HB1.out⟩
                        case measure => simp [intOf]; omega
                · obtain rfl : e = deg i := by omega
                  have HR1 := hid hrow
                  have HF1 := hid hoff.out
                  have HB1 := hid hbel
                  clear hrow hoff hbel
                  go_wp2
                  go_roundw
                  case rel => exact ⟨k + 1, f, by omega, by go_num, HR1.out, htb.out.node HI.out.symm 0, HF1, HB1.out⟩
                  case measure => simp [intOf]; omega
            · obtain rfl : lO = k := by omega
              have HR1 := hid hrow
              have HF1 := hid hoff.out
              have HB1 := hid hbel
              clear hrow hoff hbel
              go_wp2
              go_ret
              refine ⟨_, rfl, ?_, HB1.out⟩
              refine ⟨w1.heap.size + 1, w.heap.size, w1.heap.size, m, MS, cp, f, rfl, ?_, ?_, ?_, ?_, ?_, hMle, HMS.out, ?_, fun x hx => HR1.out.cell hx, ?_⟩
              · rw [HF1.out _ (by simp)]; exact HSt.out 0 _ rfl
              · rw [HF1.out _ (by simp)]; exact HSt.out 1 _ rfl
              · rw [HF1.out _ (by simp)]; exact HSt.out 2 _ rfl
              · rw [HF1.out _ (by simp)]; exact HSt.out 4 _ rfl
              · rw [HF1.out _ (by simp)]; exact HSt.out 5 _ rfl
              · intro i hi
                refine ⟨(hci.out i hi).2, ?_⟩
                rw [HF1.out _ (by simp; omega)]
                refine HK.out _ _ _ (by omega) ?_
                rw [← (hci.out i hi).1]; exact HC.out.cell hi
              · exact htb.out.filled (fun i hi e he => (hE.out i hi e he).2) (fun x hx => (hes.out x hx).2) (fun x hx => (hes.out x hx).1) (fun x hx => (hci.out x hx).2) hoa.out

end Go.Proofs.Qxb6602016a
