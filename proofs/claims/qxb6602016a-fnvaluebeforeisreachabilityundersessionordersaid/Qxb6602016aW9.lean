/-
  THE WALKS of seat b6602016a, ninth part: the second law.
-/
import Derived.Test.Qxb6602016aW8
namespace Go.Proofs.Qxb6602016a
open Go.RowKit Tar
set_option linter.unusedVariables false

/-- One of the values reaches r. -/
def Some7 (G : Gr) (r : Nat) (fv : Nat → Int) (l : Nat) : Prop := ∃ k, k < l ∧ ∃ x : Nat, fv k = (x : Int) ∧ G.reach x r

/-- Where the sessions are in order: some operation at its place or later reaches r just if it does itself. -/
theorem late_iff {G : Gr} {D : Src} {M : Nat → Bool} (hio : InOrder G.n D.ses D.pos M) (hM : ∀ x y, x < G.n → y < G.n → (M (x * G.n + y) = true ↔ G.reach x y)) {x r : Nat} (hx : x < G.n) : Late G D r x ↔ G.reach x r := by
  constructor
  · rintro ⟨y, hy, he, hp, hr⟩
    by_cases e : x = y
    · rw [e]; exact hr
    · obtain ⟨h1, h2⟩ := hio x y hx hy e he.symm
      exact ((hM x y hx hy).1 (h2 (by omega))).trans hr
  · intro h
    exact ⟨x, hx, rfl, Int.le_refl _, h⟩

theorem some_iff {G : Gr} {D : Src} {M : Nat → Bool} (hio : InOrder G.n D.ses D.pos M) (hM : ∀ x y, x < G.n → y < G.n → (M (x * G.n + y) = true ↔ G.reach x y)) {r l : Nat} {fv : Nat → Int} (hfv : ∀ k, k < l → fv k < G.n) : Some6 G D r fv l ↔ Some7 G r fv l := by
  constructor
  · rintro ⟨k, hk, x, hx, hL⟩
    exact ⟨k, hk, x, hx, (late_iff hio hM (by have := hfv k hk; omega)).1 hL⟩
  · rintro ⟨k, hk, x, hx, hL⟩
    exact ⟨k, hk, x, hx, (late_iff hio hM (by have := hfv k hk; omega)).2 hL⟩

theorem copy_fw (x y : Operand) {w3 : World} {lf cf : Nat} {ad : Addr} {fv : Nat → Int} (hF : Row w3 (some ad) lf (fun i => .int .i64 (fv i))) {ops : Array Oper} {rest : List Oper} {a : Act} {Q : Exit → Act → World → Prop} (o : Oper) (hgd : o.guard = none)
    (ho : o.op = .call { callee := .builtin .copy, args := #[x, y], argTypes := #[25, 25] }) (hd : a.eval x = .slice (some ⟨w3.heap.size, 0, none⟩) lf lf) (hs : a.eval y = .slice (some ad) lf cf)
    (h : ∀ w', Hid (∀ k, k < lf → w'.cell? ⟨w3.heap.size, k, none⟩ = some (.int .i64 (fv k))) → Below w3.heap.size w3 w' → wpList Try.prog ops Q rest (a.put o.dst (goInt lf)) w') :
    wpList Try.prog ops Q (o :: rest) a (w3.alloc (.cells (madeCells #[.int .i64 0] lf) 3)) := by
  have hal : Below w3.heap.size w3 (w3.alloc (.cells (madeCells #[.int .i64 0] lf) 3)) := (Below.refl _ _).alloc (Nat.le_refl _) _
  have hlen : ((List.range lf).map fun k => Value.int .i64 (fv k)).length = lf := by simp
  refine wpList_copy_splice hgd x y 25 25 ho 3 Try.underlying25 Try.size3 _ _ _ _ _ _ hd hs w3.heap.size 0 (madeCells #[.int .i64 0] lf).toList 3 ?_ ((List.range lf).map fun k => .int .i64 (fv k)) (by rw [hlen]; exact (Nat.min_self lf).symm) ?_ ?_ ?_ w3.heap.size w3 hal (Nat.le_refl _) ?_
  · rw [Array.toArray_toList]; exact Deep.blk_alloc_new _ _
  · intro h0
    exact ⟨rfl, source hF _ hal (by rw [hlen] at h0; exact h0)⟩
  · simp [madeCells]
  · intro v hv
    obtain ⟨k, _, rfl⟩ := List.mem_map.1 hv
    rfl
  · intro w' HG HB
    rw [hlen]
    refine h w' (fun k hk => ?_) HB
    exact spliced HG.out (lf := lf) hlen (by simp [madeCells]) k _ (by rw [List.getElem?_map, List.getElem?_range hk]; rfl)

set_option maxRecDepth 100000 in
set_option maxHeartbeats 4000000 in
theorem law7_any (a aS aP aF : Option Addr) (n c ls cs lp cp lf cf : Nat) (Sv rv : Int) (deg : Nat → Nat) (A : Nat → Option Addr) (C : Nat → Nat) (Z : Nat → Nat → Int) (ses pos fv : Nat → Int) (w : World) (hn : n ≤ 9223372036854775807) (hls : ls ≤ 9223372036854775807) (hlp : lp ≤ 9223372036854775807) (hlf : lf ≤ 9223372036854775807)
    (hS : Hid (Succ w a n deg A C Z)) (hse : Hid (Row w aS ls (fun i => .int .i64 (ses i)))) (hpo : Hid (Row w aP lp (fun i => .int .i32 (pos i)))) (hF : Hid (Row w aF lf (fun i => .int .i64 (fv i)))) :
    Calls Try.prog 7 #[.slice a n c, .slice aS ls cs, .slice aP lp cp, .int .i64 Sv, .int .i64 rv, .slice aF lf cf] w fun e w' => e = .returned (.bool true) ∧ Below w.heap.size w w' := by
  have H23 := hid (bytes7_any a aS aP aF n c ls cs lp cp lf cf Sv rv deg A C Z w hn hls hlp hlf hS)
  have q25 : ∀ (w : World) (a : Option Addr) (n c n' c' : Nat), (binOp .neq 25 (.slice a n c) (.slice none n' c')).run Try.prog w = .ok (.bool (!a.isNone)) w := fun w a n c n' c' => run_neq_slice_nil_any w _ _ a n c n' c' Try.underlying25
  go_enter Try.func7, Try.ntmps7
  go_wp2_with fail
  refine H23.out.mono ?_
  rintro e w1 ⟨⟨r1, rfl⟩, hw1⟩
  obtain rfl : w1 = w := hw1
  simp only []
  cases r1
  · go_wp2
    go_ret
    exact ⟨rfl, Below.refl _ _⟩
  clear H23
  by_cases hb : n ≤ 512 ∧ ls ≤ 65536 ∧ lp ≤ 65536 ∧ lf ≤ 65536
  case neg =>
    go_wp2
    all_goals try (go_ret; exact ⟨rfl, Below.refl _ _⟩)
    all_goals (exfalso; omega)
  obtain ⟨hn2, hls2, hlp2, hlf2⟩ := hb
  have H9 := hid (succBytes_any a n c deg A C Z w1 hn hS)
  go_wp2_with fail
  refine H9.out.mono ?_
  rintro e w2 ⟨⟨z9, rfl⟩, hw2⟩
  obtain rfl : w2 = w1 := hw2
  simp only []
  clear H9
  have H15 := hid (domain_any a aS aP n c ls cs lp cp deg A C Z ses pos Sv w2 hn2 hls2 hlp2 hS hse hpo)
  go_wp2_with fail
  all_goals try (go_ret; exact ⟨rfl, Below.refl _ _⟩)
  refine H15.out.mono ?_
  rintro e w3 ⟨⟨r15, rfl, hdom⟩, hw3⟩
  obtain rfl : w3 = w2 := hw3
  simp only []
  cases r15
  · go_wp2
    go_ret
    exact ⟨rfl, Below.refl _ _⟩
  have HD := hid (hdom rfl)
  clear hdom H15
  obtain ⟨S, rfl⟩ : ∃ S : Nat, Sv = (S : Int) := ⟨Sv.toNat, by have := HD.out.s0; omega⟩
  have hS2 : S ≤ 65536 := by have := HD.out.s1; omega
  have hnS := hid HD.out.flat
  obtain ⟨E, hEd⟩ : ∃ E : Nat → Nat → Nat, E = fun i k => (Z i k).toNat := ⟨_, rfl⟩
  have hE : Hid (∀ i, i < n → ∀ k, k < deg i → Z i k = (E i k : Int) ∧ E i k < n) := fun i hi k hk => by
    have := HD.out.rng i hi k hk
    rw [hEd]
    simp only []
    omega
  obtain ⟨sn, hsn⟩ : ∃ sn : Nat → Nat, sn = fun i => (ses i).toNat := ⟨_, rfl⟩
  have hes : Hid (∀ i, i < n → sn i < S ∧ 0 ≤ pos i) := fun i hi => by
    have := HD.out.each i hi
    rw [hsn]
    simp only []
    omega
  have hsI : Hid (∀ i, i < n → ses i = ((sn i : Nat) : Int)) := fun i hi => by
    have := HD.out.each i hi
    rw [hsn]
    simp only []
    omega
  have hnls : n ≤ ls := HD.out.hs
  have hnlp : n ≤ lp := HD.out.hp
  clear hEd hsn HD
  have hmk := run_make_row' (P := Try.prog) 25 3 (.int .i64 0) 8 Try.underlying25 Try.info3 rfl .i64 .i64 lf (by omega) (by omega)
  by_cases hr : 0 ≤ rv ∧ rv < n
  case neg =>
    cases aF with
    | none =>
      go_wp2
      all_goals try (go_ret; exact ⟨rfl, Below.refl _ _⟩)
      all_goals (exfalso; omega)
    | some ad =>
      go_wp2_with (refine copy_fw (.tmp 74) (.tmp 75) hF.out _ rfl rfl rfl rfl ?_)
      intro w4 HG HB
      have HB4 := hid HB
      clear HB HG
      go_wp2
      all_goals try (go_ret; exact ⟨rfl, HB4.out⟩)
      all_goals (exfalso; omega)
  obtain ⟨hr0, hr1⟩ := hr
  obtain ⟨r, rfl⟩ : ∃ r : Nat, rv = (r : Int) := ⟨rv.toNat, by omega⟩
  have hrn : r < n := by omega
  cases aF with
  | none =>
    obtain rfl : lf = 0 := by
      by_cases h0 : 0 < lf
      · obtain ⟨_, _, e, _⟩ := hF.out h0
        cases e
      · omega
    obtain ⟨w4, rfl⟩ : ∃ w4 : World, w4 = w3 := ⟨_, rfl⟩
    have HB4 := hid (Below.refl w4.heap.size w4)
    have HS4 := hid hS.out
    have HSe4 := hid hse.out
    have HPo4 := hid hpo.out
    clear hS hse hpo hF
    clear hmk q25
    go_wp2
    go_loop [15] (fun i => ∃ k : Nat, k ≤ 0 ∧ i = .int .i64 k ∧ Hid (∀ j, j < k → fv j < n)) (fun i => 0 - (intOf i).toNat)
    case atStart => exact ⟨0, Nat.zero_le _, rfl, fun i hi => by omega⟩
    case round =>
      obtain ⟨k, hk, rfl, hall⟩ := hrel
      by_cases hlt : k < 0
      · exact absurd hlt (Nat.not_lt_zero k)
      · obtain rfl : k = 0 := by omega
        have H12 := hid (matrix_any a n c deg A C Z E w4 hn2 HS4 hE)
        go_wp2_with fail
        refine H12.out.mono ?_
        rintro e w5 ⟨M, rfl, hM, hMi, hB5⟩
        simp only []
        obtain ⟨NN, hNN⟩ : ∃ NN : Nat, NN = n * n := ⟨_, rfl⟩
        have hNle : NN ≤ 262144 := by rw [hNN]; exact Nat.le_trans (Nat.mul_le_mul hn2 hn2) (by omega)
        rw [← hNN] at hM ⊢
        have HNN := hid hNN
        have HM := hid (fun t (ht : t < NN) => hM.cell ht)
        have HMi := hid hMi
        have HB5 := hid (chain HB4.out hB5)
        have HBa := hid hB5
        have HS5 := hid (HS4.out.later hB5)
        have HSe5 := hid (HSe4.out.later hB5)
        have HPo5 := hid (HPo4.out.later hB5)
        clear hNN hM hMi hB5 HS4 HSe4 HPo4 H12
        have HRs5 := hid (HSe5.out.first (n := n) (g := fun i => .int .i64 ((sn i : Nat) : Int)) hnls (fun i hi => by rw [hsI.out i hi]))
        have HRp5 := hid (HPo5.out.first (n := n) (g := fun i => .int .i32 (pos i)) hnlp (fun i hi => rfl))
        have H24 := hid (session_any n aS aP ls cs lp cp w4.heap.size NN sn pos M w5 hn2 hnls hnlp hls2 hlp2 hNle HNN HRs5 HRp5 HM)
        clear HRs5 HRp5
        go_wp2_with fail
        refine H24.out.mono ?_
        rintro e w6 ⟨v24, rfl, hio, N, hw6⟩
        simp only []
        have hBd : Below w5.heap.size w5 w6 := by rw [hw6]; exact below_drewN (Below.refl _ _) _
        have HB6 := hid (chain HB5.out hBd)
        have HBb := hid (chain HBa.out hBd)
        have HS6 := hid (HS5.out.later hBd)
        have HSe6 := hid (HSe5.out.later hBd)
        have HPo6 := hid (HPo5.out.later hBd)
        have HM6 : Hid (∀ t, t < NN → w6.cell? ⟨w4.heap.size, t, none⟩ = some (.bool (M t))) := fun t ht => cell_later hBd (HM.out t ht)
        clear hw6 hBd H24 HB5 HBa HS5 HSe5 HPo5 HM
        cases v24
        · go_wp2
          go_ret
          exact ⟨rfl, HB6.out⟩
        have HIO := hid (hio rfl)
        clear hio
        have H17 := hid (clone64_any aS ls cs ses w6 hls2 HSe6)
        go_wp2_with fail
        refine H17.out.mono ?_
        rintro e w7 ⟨a7, c7, rfl, hR7, hB7⟩
        simp only []
        have HR7 := hid hR7
        have HPo7 := hid (HPo6.out.later hB7)
        have HS7 := hid (HS6.out.later hB7)
        have HB7 := hid (chain HB6.out hB7)
        have HBc := hid (chain HBb.out hB7)
        have HM7 : Hid (∀ t, t < NN → w7.cell? ⟨w4.heap.size, t, none⟩ = some (.bool (M t))) := fun t ht => cell_later hB7 (HM6.out t ht)
        clear hR7 hB7 H17 HSe6 HPo6 HS6 HB6 HBb HM6
        have H18 := hid (clone32_any aP lp cp pos w7 hlp2 HPo7)
        go_wp2_with fail
        refine H18.out.mono ?_
        rintro e w8 ⟨a8, c8, rfl, hR8, hB8⟩
        simp only []
        have HS8 := hid (HS7.out.later hB8)
        have HB8 := hid (chain HB7.out hB8)
        have HBe := hid (chain HBc.out hB8)
        have HRs := hid ((HR7.out.later hB8).first (n := n) (g := fun i => .int .i64 ((sn i : Nat) : Int)) hnls (fun i hi => by rw [hsI.out i hi]))
        have HRp := hid (hR8.first (n := n) (g := fun i => .int .i32 (pos i)) hnlp (fun i hi => rfl))
        have HM8 : Hid (∀ t, t < NN → w8.cell? ⟨w4.heap.size, t, none⟩ = some (.bool (M t))) := fun t ht => cell_later hB8 (HM7.out t ht)
        clear hR8 hB8 H18 HR7 HPo7 HS7 HB7 HBc HM7
        have H19 := hid (zzOrder_any a n c deg A C Z E a7 a8 ls c7 lp c8 S sn pos w8 hn2 HS8 hE hnls hnlp hls2 hlp2 hS2 hnS HRs HRp hes)
        obtain ⟨bs, os, rfl, hcs⟩ := HRs.out (by omega)
        obtain ⟨bp, op, rfl, hcp⟩ := HRp.out (by omega)
        have HCS := hid hcs
        have HCP := hid hcp
        clear hcs hcp
        go_wp2_with fail
        refine H19.out.mono ?_
        rintro e w9 ⟨v9, rfl, hC, hB9⟩
        simp only []
        obtain ⟨b, h, g, m, MS, cc, f, rfl, h0, h1, h2, h4, h5, hMS, hMe, hd1, hd2, hfil⟩ := hC
        have HCA : Hid (CA (Gr.mk n deg E) ⟨S, sn, pos⟩ bs os ls c7 bp op lp c8 b h g m MS cc f w9) := ⟨h0, h1, h2, h4, h5, hMS, hMe, hd1, hd2, fun x hx => cell_later hB9 (HCS.out x hx), fun x hx => cell_later hB9 (HCP.out x hx), hfil⟩
        have HB9 := hid (chain HB8.out hB9)
        have HBf := hid (chain HBe.out hB9)
        have HM9 : Hid (∀ t, t < NN → w9.cell? ⟨w4.heap.size, t, none⟩ = some (.bool (M t))) := fun t ht => cell_later hB9 (HM8.out t ht)
        clear h0 h1 h2 h4 h5 hMe hd1 hd2 hfil hB9 H19 HS8 HB8 HBe HCS HCP HRs HRp hsI HM8
        have H22 := hid (zzValue_any HCA hn2 hS2 hnls hnlp hls2 hlp2 hes r hrn none 0 cf fv hlf2 (fun h => absurd h (Nat.lt_irrefl 0)) hall)
        go_wp2_with fail
        refine H22.out.mono ?_
        rintro e wz ⟨got, rfl, hgot, hBz⟩
        simp only []
        have HGot : Hid (got = true ↔ Some7 (Gr.mk n deg E) r fv 0) := hgot.trans (some_iff (G := Gr.mk n deg E) (D := ⟨S, sn, pos⟩) HIO.out HMi.out hall.out)
        have HBz := hid (chain HB9.out hBz)
        have HMz : Hid (∀ t, t < NN → wz.cell? ⟨w4.heap.size, t, none⟩ = some (.bool (M t))) := fun t ht => cell_later hBz (HM9.out t ht)
        clear hgot hBz H22 HB9 HBf HCA HM9 HIO
        go_wp2
        go_loop [19, 20] (fun wv kv => ∃ (wb : Bool) (k : Nat), wv = .bool wb ∧ kv = .int .i64 k ∧ k ≤ 0 ∧ Hid (wb = true ↔ Some7 (Gr.mk n deg E) r fv k)) (fun _ kv => 0 - (intOf kv).toNat)
        case atStart => exact ⟨false, 0, rfl, rfl, Nat.zero_le _, ⟨fun h => Bool.noConfusion h, fun ⟨k, hk, _⟩ => absurd hk (Nat.not_lt_zero k)⟩⟩
        case round =>
          obtain ⟨wb, k, rfl, rfl, hk, hwb⟩ := hrel
          by_cases hlt : k < 0
          · exact absurd hlt (Nat.not_lt_zero k)
          · obtain rfl : k = 0 := by omega
            have hg : got = wb := by
              cases hgg : got with
              | true => exact (hwb.out.2 (HGot.out.1 hgg)).symm
              | false =>
                cases hww : wb with
                | false => rfl
                | true => rw [HGot.out.2 (hwb.out.1 hww)] at hgg; exact Bool.noConfusion hgg
            subst hg
            cases got
            all_goals
              go_wp2
              go_ret
              exact ⟨rfl, HBz.out⟩
  | some ad =>
    go_wp2_with (refine copy_fw (.tmp 74) (.tmp 75) hF.out _ rfl rfl rfl rfl ?_)
    intro w4 HF4 HB
    have HB4 := hid HB
    have HS4 := hid (hS.out.later HB)
    have HSe4 := hid (hse.out.later HB)
    have HPo4 := hid (hpo.out.later HB)
    clear HB hS hse hpo hF
    clear hmk q25
    go_wp2
    go_loop [15] (fun i => ∃ k : Nat, k ≤ lf ∧ i = .int .i64 k ∧ Hid (∀ j, j < k → fv j < n)) (fun i => lf - (intOf i).toNat)
    case atStart => exact ⟨0, Nat.zero_le _, rfl, fun i hi => by omega⟩
    case round =>
      obtain ⟨k, hk, rfl, hall⟩ := hrel
      by_cases hlt : k < lf
      · have d5 := HF4.out k hlt
        go_wp2
        all_goals try (go_ret; exact ⟨rfl, HB4.out⟩)
        have hz : fv k < n := by assumption
        go_round
        case rel => exact ⟨k + 1, by omega, by go_num, fun i hi => by
          by_cases e : i = k
          · subst e; exact hz
          · exact hall.out i (by omega)⟩
        case measure => simp [intOf]; omega
      · obtain rfl : lf = k := by omega
        have H12 := hid (matrix_any a n c deg A C Z E w4 hn2 HS4 hE)
        go_wp2_with fail
        refine H12.out.mono ?_
        rintro e w5 ⟨M, rfl, hM, hMi, hB5⟩
        simp only []
        obtain ⟨NN, hNN⟩ : ∃ NN : Nat, NN = n * n := ⟨_, rfl⟩
        have hNle : NN ≤ 262144 := by rw [hNN]; exact Nat.le_trans (Nat.mul_le_mul hn2 hn2) (by omega)
        rw [← hNN] at hM ⊢
        have HNN := hid hNN
        have HM := hid (fun t (ht : t < NN) => hM.cell ht)
        have HMi := hid hMi
        have HB5 := hid (chain HB4.out hB5)
        have HBa := hid hB5
        have HS5 := hid (HS4.out.later hB5)
        have HSe5 := hid (HSe4.out.later hB5)
        have HPo5 := hid (HPo4.out.later hB5)
        clear hNN hM hMi hB5 HS4 HSe4 HPo4 H12
        have HRs5 := hid (HSe5.out.first (n := n) (g := fun i => .int .i64 ((sn i : Nat) : Int)) hnls (fun i hi => by rw [hsI.out i hi]))
        have HRp5 := hid (HPo5.out.first (n := n) (g := fun i => .int .i32 (pos i)) hnlp (fun i hi => rfl))
        have H24 := hid (session_any n aS aP ls cs lp cp w4.heap.size NN sn pos M w5 hn2 hnls hnlp hls2 hlp2 hNle HNN HRs5 HRp5 HM)
        clear HRs5 HRp5
        go_wp2_with fail
        refine H24.out.mono ?_
        rintro e w6 ⟨v24, rfl, hio, N, hw6⟩
        simp only []
        have hBd : Below w5.heap.size w5 w6 := by rw [hw6]; exact below_drewN (Below.refl _ _) _
        have HB6 := hid (chain HB5.out hBd)
        have HBb := hid (chain HBa.out hBd)
        have HS6 := hid (HS5.out.later hBd)
        have HSe6 := hid (HSe5.out.later hBd)
        have HPo6 := hid (HPo5.out.later hBd)
        have HM6 : Hid (∀ t, t < NN → w6.cell? ⟨w4.heap.size, t, none⟩ = some (.bool (M t))) := fun t ht => cell_later hBd (HM.out t ht)
        clear hw6 hBd H24 HB5 HBa HS5 HSe5 HPo5 HM
        cases v24
        · go_wp2
          go_ret
          exact ⟨rfl, HB6.out⟩
        have HIO := hid (hio rfl)
        clear hio
        have H17 := hid (clone64_any aS ls cs ses w6 hls2 HSe6)
        go_wp2_with fail
        refine H17.out.mono ?_
        rintro e w7 ⟨a7, c7, rfl, hR7, hB7⟩
        simp only []
        have HR7 := hid hR7
        have HPo7 := hid (HPo6.out.later hB7)
        have HS7 := hid (HS6.out.later hB7)
        have HB7 := hid (chain HB6.out hB7)
        have HBc := hid (chain HBb.out hB7)
        have HM7 : Hid (∀ t, t < NN → w7.cell? ⟨w4.heap.size, t, none⟩ = some (.bool (M t))) := fun t ht => cell_later hB7 (HM6.out t ht)
        clear hR7 hB7 H17 HSe6 HPo6 HS6 HB6 HBb HM6
        have H18 := hid (clone32_any aP lp cp pos w7 hlp2 HPo7)
        go_wp2_with fail
        refine H18.out.mono ?_
        rintro e w8 ⟨a8, c8, rfl, hR8, hB8⟩
        simp only []
        have HS8 := hid (HS7.out.later hB8)
        have HB8 := hid (chain HB7.out hB8)
        have HBe := hid (chain HBc.out hB8)
        have HRs := hid ((HR7.out.later hB8).first (n := n) (g := fun i => .int .i64 ((sn i : Nat) : Int)) hnls (fun i hi => by rw [hsI.out i hi]))
        have HRp := hid (hR8.first (n := n) (g := fun i => .int .i32 (pos i)) hnlp (fun i hi => rfl))
        have HM8 : Hid (∀ t, t < NN → w8.cell? ⟨w4.heap.size, t, none⟩ = some (.bool (M t))) := fun t ht => cell_later hB8 (HM7.out t ht)
        clear hR8 hB8 H18 HR7 HPo7 HS7 HB7 HBc HM7
        have H19 := hid (zzOrder_any a n c deg A C Z E a7 a8 ls c7 lp c8 S sn pos w8 hn2 HS8 hE hnls hnlp hls2 hlp2 hS2 hnS HRs HRp hes)
        obtain ⟨bs, os, rfl, hcs⟩ := HRs.out (by omega)
        obtain ⟨bp, op, rfl, hcp⟩ := HRp.out (by omega)
        have HCS := hid hcs
        have HCP := hid hcp
        clear hcs hcp
        go_wp2_with fail
        refine H19.out.mono ?_
        rintro e w9 ⟨v9, rfl, hC, hB9⟩
        simp only []
        obtain ⟨b, h, g, m, MS, cc, f, rfl, h0, h1, h2, h4, h5, hMS, hMe, hd1, hd2, hfil⟩ := hC
        have HCA : Hid (CA (Gr.mk n deg E) ⟨S, sn, pos⟩ bs os ls c7 bp op lp c8 b h g m MS cc f w9) := ⟨h0, h1, h2, h4, h5, hMS, hMe, hd1, hd2, fun x hx => cell_later hB9 (HCS.out x hx), fun x hx => cell_later hB9 (HCP.out x hx), hfil⟩
        have HB9 := hid (chain HB8.out hB9)
        have HBf := hid (chain HBe.out hB9)
        have HM9 : Hid (∀ t, t < NN → w9.cell? ⟨w4.heap.size, t, none⟩ = some (.bool (M t))) := fun t ht => cell_later hB9 (HM8.out t ht)
        clear h0 h1 h2 h4 h5 hMe hd1 hd2 hfil hB9 H19 HS8 HB8 HBe HCS HCP HRs HRp hsI HM8
        have HF9 : Hid (∀ k, k < lf → w9.cell? ⟨w3.heap.size, k, none⟩ = some (.int .i64 (fv k))) := fun k hk => cell_later HBf.out (HF4.out k hk)
        have H22 := hid (zzValue_any HCA hn2 hS2 hnls hnlp hls2 hlp2 hes r hrn (some ⟨w3.heap.size, 0, none⟩) lf lf fv hlf2 (fun _ => ⟨_, _, rfl, fun k hk => by rw [Nat.zero_add]; exact HF9.out k hk⟩) hall)
        go_wp2_with fail
        refine H22.out.mono ?_
        rintro e wz ⟨got, rfl, hgot, hBz⟩
        simp only []
        have HGot : Hid (got = true ↔ Some7 (Gr.mk n deg E) r fv lf) := hgot.trans (some_iff (G := Gr.mk n deg E) (D := ⟨S, sn, pos⟩) HIO.out HMi.out hall.out)
        have HBz := hid (chain HB9.out hBz)
        have HMz : Hid (∀ t, t < NN → wz.cell? ⟨w4.heap.size, t, none⟩ = some (.bool (M t))) := fun t ht => cell_later hBz (HM9.out t ht)
        have HFz : Hid (∀ k, k < lf → wz.cell? ⟨w3.heap.size, k, none⟩ = some (.int .i64 (fv k))) := fun k hk => cell_later hBz (HF9.out k hk)
        clear HF9 HF4
        clear hgot hBz H22 HB9 HBf HCA HM9 HIO
        go_wp2
        go_loop [19, 20] (fun wv kv => ∃ (wb : Bool) (k : Nat), wv = .bool wb ∧ kv = .int .i64 k ∧ k ≤ lf ∧ Hid (wb = true ↔ Some7 (Gr.mk n deg E) r fv k)) (fun _ kv => lf - (intOf kv).toNat)
        case atStart => exact ⟨false, 0, rfl, rfl, Nat.zero_le _, ⟨fun h => Bool.noConfusion h, fun ⟨k, hk, _⟩ => absurd hk (Nat.not_lt_zero k)⟩⟩
        case round =>
          obtain ⟨wb, k, rfl, rfl, hk, hwb⟩ := hrel
          by_cases hlt : k < lf
          · have d5 := HFz.out k hlt
            have hfk := hall.out k hlt
            by_cases h0 : 0 ≤ fv k
            · obtain ⟨x0, hx0⟩ : ∃ x0 : Nat, fv k = (x0 : Int) := ⟨(fv k).toNat, by omega⟩
              have hxn : x0 < n := by omega
              rw [hx0] at d5 h0
              have HX := hid hx0
              clear hx0 hfk
              obtain ⟨P, hP⟩ : ∃ P : Nat, P = x0 * n := ⟨_, rfl⟩
              have hPI : (x0 : Int) * (n : Int) = (P : Int) := by rw [hP]; simp
              have hPN : P + r < NN := by rw [hP, HNN.out]; exact flat_lt hrn hxn
              have m1 := HMz.out (P + r) hPN
              have HP : Hid (M (P + r) = true ↔ (Gr.mk n deg E).reach x0 r) := by rw [hP]; exact HMi.out x0 r hxn hrn
              clear hP
              have i5 : (P : Int) + (r : Int) < (NN : Int) := by omega
              cases hMM : M (P + r) with
              | false =>
                rw [hMM] at m1
                have HW : Hid (wb = true ↔ Some7 (Gr.mk n deg E) r fv (k + 1)) := ⟨fun hw => by
                  obtain ⟨j, hj, hx⟩ := hwb.out.1 hw
                  exact ⟨j, by omega, hx⟩, fun ⟨j, hj, x, hx, hL⟩ => by
                  by_cases e : j = k
                  · subst e
                    have e2 : x0 = x := by have := HX.out; omega
                    subst e2
                    rw [HP.out.2 hL] at hMM
                    exact Bool.noConfusion hMM
                  · exact hwb.out.2 ⟨j, by omega, x, hx, hL⟩⟩
                go_wp2
                go_round
                case rel => exact ⟨wb, k + 1, rfl, by go_num, by omega, HW⟩
                case measure => simp [intOf]; omega
              | true =>
                rw [hMM] at m1
                have HW : Hid (true = true ↔ Some7 (Gr.mk n deg E) r fv (k + 1)) := ⟨fun _ => ⟨k, by omega, x0, HX.out, HP.out.1 hMM⟩, fun _ => rfl⟩
                go_wp2
                go_round
                case rel => exact ⟨true, k + 1, rfl, by go_num, by omega, HW⟩
                case measure => simp [intOf]; omega
            · have HW : Hid (wb = true ↔ Some7 (Gr.mk n deg E) r fv (k + 1)) := ⟨fun hw => by
                obtain ⟨j, hj, hx⟩ := hwb.out.1 hw
                exact ⟨j, by omega, hx⟩, fun ⟨j, hj, x, hx, hL⟩ => by
                by_cases e : j = k
                · subst e; omega
                · exact hwb.out.2 ⟨j, by omega, x, hx, hL⟩⟩
              go_wp2
              go_round
              case rel => exact ⟨wb, k + 1, rfl, by go_num, by omega, HW⟩
              case measure => simp [intOf]; omega
          · obtain rfl : k = lf := by omega
            have hg : got = wb := by
              cases hgg : got with
              | true => exact (hwb.out.2 (HGot.out.1 hgg)).symm
              | false =>
                cases hww : wb with
                | false => rfl
                | true => rw [HGot.out.2 (hwb.out.1 hww)] at hgg; exact Bool.noConfusion hgg
            subst hg
            cases got
            all_goals
              go_wp2
              go_ret
              exact ⟨rfl, HBz.out⟩

end Go.Proofs.Qxb6602016a
