/-
  THE WALKS of seat b6602016a, eighth part: the first law.
-/
import Derived.Test.Qxb6602016aW7
import Derived.Laws.CopyOwn
namespace Go.Proofs.Qxb6602016a
open Go.RowKit Tar
set_option linter.unusedVariables false

theorem Row.first {w : World} {a : Option Addr} {l n : Nat} {f g : Nat → Value} (h : Row w a l f) (hn : n ≤ l) (hfg : ∀ i, i < n → f i = g i) : Row w a n g := by
  intro h0
  obtain ⟨b, o, e, hc⟩ := h (by omega)
  exact ⟨b, o, e, fun i hi => by rw [← hfg i hi]; exact hc i (by omega)⟩

theorem Row.drewN {w : World} {a : Option Addr} {l : Nat} {f : Nat → Value} (h : Row w a l f) (N : Nat) : Row (w.drewN N) a l f := h

theorem Dom.flat {n ls lp : Nat} {deg : Nat → Nat} {Z : Nat → Nat → Int} {ses pos : Nat → Int} {S : Nat} (h : Dom n ls lp deg Z ses pos (S : Int)) : n * S ≤ 1048576 := by
  by_cases h0 : 0 < S
  · have h1 := h.mul (by omega)
    have h2 : ((n * S : Nat) : Int) ≤ 1048576 := by
      rw [Int.natCast_mul]
      have := Int.mul_le_mul_of_nonneg_right h1 (show (0 : Int) ≤ (S : Int) by omega)
      have h3 := Int.ediv_mul_le 1048576 (show (S : Int) ≠ 0 by omega)
      omega
    omega
  · obtain rfl : S = 0 := by omega
    simp

theorem chain {W w w' : World} (h : Below W.heap.size W w) (k : Below w.heap.size w w') : Below W.heap.size W w' := h.trans (k.mono h.size)

/-- The cells of the copy, read off the source. -/
theorem source {w : World} {aF : Option Addr} {lf : Nat} {fv : Nat → Int} (h : Row w aF lf (fun i => .int .i64 (fv i))) (w' : World) (hb : Below w.heap.size w w') (hl : 0 < lf) :
    ∃ ad, aF = some ad ∧ ∀ j v, ((List.range lf).map fun k => Value.int .i64 (fv k))[j]? = some v → w'.cell? (ad.add j) = some v := by
  obtain ⟨b, o, rfl, hc⟩ := h hl
  refine ⟨_, rfl, fun j v hv => ?_⟩
  have hj : j < lf := by
    have := (List.getElem?_eq_some_iff.1 hv).1
    simpa using this
  have e : v = .int .i64 (fv j) := by
    rw [List.getElem?_map, List.getElem?_range hj] at hv
    simpa using hv.symm
  have e2 : (⟨b, o, none⟩ : Addr).add j = ⟨b, o + j, none⟩ := by
    unfold Addr.add
    split
    · rename_i h0; rw [h0]; rfl
    · rfl
  rw [e, e2]
  exact cell_later hb (hc j hj)

theorem Try.size3 : (Try.prog.info? 3).map (·.size) = some 1 := by kernel_rfl

/-- The copy of the first values: a row of its own. -/
theorem spliced {w' : World} {g lf : Nat} {cs : List Value} {cur : List Value} {t : TypeId} (h : w'.heap[g]? = some (.cells (splice cur 0 cs).toArray t (0, 0))) (hl : cs.length = lf) (hc : cur.length = lf) : ∀ k v, cs[k]? = some v → w'.cell? ⟨g, k, none⟩ = some v := by
  intro k v hv
  have e : splice cur 0 cs = cs := by
    unfold splice
    rw [hl, List.drop_of_length_le (by omega)]
    simp
  rw [e] at h
  unfold World.cell?
  simp only [h]
  simpa using hv

theorem copy_fv {w3 : World} {lf cf : Nat} {ad : Addr} {fv : Nat → Int} (hF : Row w3 (some ad) lf (fun i => .int .i64 (fv i))) {ops : Array Oper} {rest : List Oper} {a : Act} {Q : Exit → Act → World → Prop} (o : Oper) (hgd : o.guard = none)
    (ho : o.op = .call { callee := .builtin .copy, args := #[.tmp 75, .tmp 76], argTypes := #[25, 25] }) (hd : a.eval (.tmp 75) = .slice (some ⟨w3.heap.size, 0, none⟩) lf lf) (hs : a.eval (.tmp 76) = .slice (some ad) lf cf)
    (h : ∀ w', Hid (∀ k, k < lf → w'.cell? ⟨w3.heap.size, k, none⟩ = some (.int .i64 (fv k))) → Below w3.heap.size w3 w' → wpList Try.prog ops Q rest (a.put o.dst (goInt lf)) w') :
    wpList Try.prog ops Q (o :: rest) a (w3.alloc (.cells (madeCells #[.int .i64 0] lf) 3)) := by
  have hal : Below w3.heap.size w3 (w3.alloc (.cells (madeCells #[.int .i64 0] lf) 3)) := (Below.refl _ _).alloc (Nat.le_refl _) _
  have hlen : ((List.range lf).map fun k => Value.int .i64 (fv k)).length = lf := by simp
  refine wpList_copy_splice hgd (.tmp 75) (.tmp 76) 25 25 ho 3 Try.underlying25 Try.size3 _ _ _ _ _ _ hd hs w3.heap.size 0 (madeCells #[.int .i64 0] lf).toList 3 ?_ ((List.range lf).map fun k => .int .i64 (fv k)) (by rw [hlen]; exact (Nat.min_self lf).symm) ?_ ?_ ?_ w3.heap.size w3 hal (Nat.le_refl _) ?_
  · rw [Array.toArray_toList]; exact Deep.blk_alloc_new _ _
  · intro h0
    exact ⟨rfl, source hF _ hal (by rw [hlen] at h0; exact h0)⟩
  · simp [madeCells]
  · intro v hv
    obtain ⟨k, _, rfl⟩ := List.mem_map.1 hv
    rfl
  · intro w' HG HB
    rw [hlen]
    refine h w' (fun k hk => ?_) HB
    exact spliced HG.out (lf := lf) hlen (by simp [madeCells]) k _ (by rw [List.getElem?_map, List.getElem?_range hk]; rfl)

set_option maxRecDepth 100000 in
set_option maxHeartbeats 4000000 in
theorem law6_any (a aS aP aF : Option Addr) (n c ls cs lp cp lf cf : Nat) (Sv rv : Int) (deg : Nat → Nat) (A : Nat → Option Addr) (C : Nat → Nat) (Z : Nat → Nat → Int) (ses pos fv : Nat → Int) (w : World) (hn : n ≤ 9223372036854775807) (hls : ls ≤ 9223372036854775807) (hlp : lp ≤ 9223372036854775807) (hlf : lf ≤ 9223372036854775807)
    (hS : Hid (Succ w a n deg A C Z)) (hse : Hid (Row w aS ls (fun i => .int .i64 (ses i)))) (hpo : Hid (Row w aP lp (fun i => .int .i32 (pos i)))) (hF : Hid (Row w aF lf (fun i => .int .i64 (fv i)))) :
    Calls Try.prog 6 #[.slice a n c, .slice aS ls cs, .slice aP lp cp, .int .i64 Sv, .int .i64 rv, .slice aF lf cf] w fun e w' => e = .returned (.bool true) ∧ Below w.heap.size w w' := by
  have H21 := hid (bytes6_any a aS aP aF n c ls cs lp cp lf cf Sv rv deg A C Z w hn hls hlp hlf hS)
  have q25 : ∀ (w : World) (a : Option Addr) (n c n' c' : Nat), (binOp .neq 25 (.slice a n c) (.slice none n' c')).run Try.prog w = .ok (.bool (!a.isNone)) w := fun w a n c n' c' => run_neq_slice_nil_any w _ _ a n c n' c' Try.underlying25
  go_enter Try.func6, Try.ntmps6
  go_wp2_with fail
  refine H21.out.mono ?_
  rintro e w1 ⟨⟨r1, rfl⟩, hw1⟩
  obtain rfl : w1 = w := hw1
  simp only []
  cases r1
  · go_wp2
    go_ret
    exact ⟨rfl, Below.refl _ _⟩
  clear H21
  by_cases hb : n ≤ 512 ∧ ls ≤ 65536 ∧ lp ≤ 65536 ∧ lf ≤ 65536
  case neg =>
    go_wp2
    all_goals try (go_ret; exact ⟨rfl, Below.refl _ _⟩)
    all_goals (exfalso; omega)
  obtain ⟨hn2, hls2, hlp2, hlf2⟩ := hb
  have H9 := hid (succBytes_any a n c deg A C Z w1 hn hS)
  go_wp2_with fail
  refine H9.out.mono ?_
  rintro e w2 ⟨⟨z9, rfl⟩, hw2⟩
  obtain rfl : w2 = w1 := hw2
  simp only []
  clear H9
  have H15 := hid (domain_any a aS aP n c ls cs lp cp deg A C Z ses pos Sv w2 hn2 hls2 hlp2 hS hse hpo)
  go_wp2_with fail
  all_goals try (go_ret; exact ⟨rfl, Below.refl _ _⟩)
  refine H15.out.mono ?_
  rintro e w3 ⟨⟨r15, rfl, hdom⟩, hw3⟩
  obtain rfl : w3 = w2 := hw3
  simp only []
  cases r15
  · go_wp2
    go_ret
    exact ⟨rfl, Below.refl _ _⟩
  have HD := hid (hdom rfl)
  clear hdom H15
  obtain ⟨S, rfl⟩ : ∃ S : Nat, Sv = (S : Int) := ⟨Sv.toNat, by have := HD.out.s0; omega⟩
  have hS2 : S ≤ 65536 := by have := HD.out.s1; omega
  have hnS := hid HD.out.flat
  obtain ⟨E, hEd⟩ : ∃ E : Nat → Nat → Nat, E = fun i k => (Z i k).toNat := ⟨_, rfl⟩
  have hE : Hid (∀ i, i < n → ∀ k, k < deg i → Z i k = (E i k : Int) ∧ E i k < n) := fun i hi k hk => by
    have := HD.out.rng i hi k hk
    rw [hEd]
    simp only []
    omega
  obtain ⟨sn, hsn⟩ : ∃ sn : Nat → Nat, sn = fun i => (ses i).toNat := ⟨_, rfl⟩
  have hes : Hid (∀ i, i < n → sn i < S ∧ 0 ≤ pos i) := fun i hi => by
    have := HD.out.each i hi
    rw [hsn]
    simp only []
    omega
  have hsI : Hid (∀ i, i < n → ses i = ((sn i : Nat) : Int)) := fun i hi => by
    have := HD.out.each i hi
    rw [hsn]
    simp only []
    omega
  have hnls : n ≤ ls := HD.out.hs
  have hnlp : n ≤ lp := HD.out.hp
  clear hEd hsn HD
  have hmk := run_make_row' (P := Try.prog) 25 3 (.int .i64 0) 8 Try.underlying25 Try.info3 rfl .i64 .i64 lf (by omega) (by omega)
  by_cases hr : 0 ≤ rv ∧ rv < n
  case neg =>
    cases aF with
    | none =>
      go_wp2
      all_goals try (go_ret; exact ⟨rfl, Below.refl _ _⟩)
      all_goals (exfalso; omega)
    | some ad =>
      go_wp2_with (refine copy_fv hF.out _ rfl rfl rfl rfl ?_)
      intro w4 HG HB
      have HB4 := hid HB
      clear HB HG
      go_wp2
      all_goals try (go_ret; exact ⟨rfl, HB4.out⟩)
      all_goals (exfalso; omega)
  obtain ⟨hr0, hr1⟩ := hr
  obtain ⟨r, rfl⟩ : ∃ r : Nat, rv = (r : Int) := ⟨rv.toNat, by omega⟩
  have hrn : r < n := by omega
  cases aF with
  | none =>
    obtain rfl : lf = 0 := by
      by_cases h0 : 0 < lf
      · obtain ⟨_, _, e, _⟩ := hF.out h0
        cases e
      · omega
    obtain ⟨w4, rfl⟩ : ∃ w4 : World, w4 = w3 := ⟨_, rfl⟩
    have HB4 := hid (Below.refl w4.heap.size w4)
    have HS4 := hid hS.out
    have HSe4 := hid hse.out
    have HPo4 := hid hpo.out
    clear hS hse hpo hF
    clear hmk q25
    go_wp2
    go_loop [15] (fun i => ∃ k : Nat, k ≤ 0 ∧ i = .int .i64 k ∧ Hid (∀ j, j < k → fv j < n)) (fun i => 0 - (intOf i).toNat)
    case atStart => exact ⟨0, Nat.zero_le _, rfl, fun i hi => by omega⟩
    case round =>
      obtain ⟨k, hk, rfl, hall⟩ := hrel
      by_cases hlt : k < 0
      · exact absurd hlt (Nat.not_lt_zero k)
      · obtain rfl : k = 0 := by omega
        have H17 := hid (clone64_any aS ls cs ses w4 hls2 HSe4)
        go_wp2_with fail
        refine H17.out.mono ?_
        rintro e w5 ⟨a5, c5, rfl, hR5, hB5⟩
        simp only []
        have HR5 := hid hR5
        have HPo5 := hid (HPo4.out.later hB5)
        have HS5 := hid (HS4.out.later hB5)
        have HB5 := hid (chain HB4.out hB5)
        have HBa := hid hB5
        clear hR5 hB5 H17 HSe4 HPo4 HS4
        have H18 := hid (clone32_any aP lp cp pos w5 hlp2 HPo5)
        go_wp2_with fail
        refine H18.out.mono ?_
        rintro e w6 ⟨a6, c6, rfl, hR6, hB6⟩
        simp only []
        have HS6 := hid (HS5.out.later hB6)
        have HB6 := hid (chain HB5.out hB6)
        have HBb := hid (chain HBa.out hB6)
        have HRs := hid ((HR5.out.later hB6).first (n := n) (g := fun i => .int .i64 ((sn i : Nat) : Int)) hnls (fun i hi => by rw [hsI.out i hi]))
        have HRp := hid (hR6.first (n := n) (g := fun i => .int .i32 (pos i)) hnlp (fun i hi => rfl))
        clear hR6 hB6 H18 HR5 HPo5 HS5 HB5 HBa
        have H19 := hid (zzOrder_any a n c deg A C Z E a5 a6 ls c5 lp c6 S sn pos w6 hn2 HS6 hE hnls hnlp hls2 hlp2 hS2 hnS HRs HRp hes)
        obtain ⟨bs, os, rfl, hcs⟩ := HRs.out (by omega)
        obtain ⟨bp, op, rfl, hcp⟩ := HRp.out (by omega)
        have HCS := hid hcs
        have HCP := hid hcp
        clear hcs hcp
        go_wp2_with fail
        refine H19.out.mono ?_
        rintro e w7 ⟨v7, rfl, hC, hB7⟩
        simp only []
        obtain ⟨b, h, g, m, MS, cc, f, rfl, h0, h1, h2, h4, h5, hMS, hMe, hd1, hd2, hfil⟩ := hC
        have HCA : Hid (CA (Gr.mk n deg E) ⟨S, sn, pos⟩ bs os ls c5 bp op lp c6 b h g m MS cc f w7) := ⟨h0, h1, h2, h4, h5, hMS, hMe, hd1, hd2, fun x hx => cell_later hB7 (HCS.out x hx), fun x hx => cell_later hB7 (HCP.out x hx), hfil⟩
        have HS7 := hid (HS6.out.later hB7)
        have HB7 := hid (chain HB6.out hB7)
        have HBc := hid (chain HBb.out hB7)
        clear h0 h1 h2 h4 h5 hMe hd1 hd2 hfil hB7 H19 HS6 HB6 HBb HCS HCP HRs HRp hsI
        have H22 := hid (zzValue_any HCA hn2 hS2 hnls hnlp hls2 hlp2 hes r hrn none 0 cf fv hlf2 (fun h => absurd h (Nat.lt_irrefl 0)) hall)
        go_wp2_with fail
        refine H22.out.mono ?_
        rintro e w8 ⟨got, rfl, hgot, hB8⟩
        simp only []
        have HGot := hid hgot
        have HS8 := hid (HS7.out.later hB8)
        have HB8 := hid (chain HB7.out hB8)
        have HBd := hid (chain HBc.out hB8)
        have HSe8 : Hid (∀ i, i < n → w8.cell? ⟨bs, os + i, none⟩ = some (.int .i64 ((sn i : Nat) : Int))) := fun i hi => cell_later hB8 (HCA.out.d3 i hi)
        have HPo8 : Hid (∀ i, i < n → w8.cell? ⟨bp, op + i, none⟩ = some (.int .i32 (pos i))) := fun i hi => cell_later hB8 (HCA.out.d4 i hi)
        clear hgot hB8 H22 HS7 HB7 HBc HCA
        have H12 := hid (matrix_any a n c deg A C Z E w8 hn2 HS8 hE)
        go_wp2_with fail
        refine H12.out.mono ?_
        rintro e w9 ⟨M, rfl, hM, hMi, hB9⟩
        simp only []
        obtain ⟨NN, hNN⟩ : ∃ NN : Nat, NN = n * n := ⟨_, rfl⟩
        have hNle : NN ≤ 262144 := by rw [hNN]; exact Nat.le_trans (Nat.mul_le_mul hn2 hn2) (by omega)
        rw [← hNN] at hM ⊢
        have HNN := hid hNN
        have HM := hid (fun t (ht : t < NN) => hM.cell ht)
        have HMi := hid hMi
        have HB9 := hid (chain HB8.out hB9)
        have HSe9 : Hid (∀ i, i < n → w9.cell? ⟨bs, os + i, none⟩ = some (.int .i64 ((sn i : Nat) : Int))) := fun i hi => cell_later hB9 (HSe8.out i hi)
        have HPo9 : Hid (∀ i, i < n → w9.cell? ⟨bp, op + i, none⟩ = some (.int .i32 (pos i))) := fun i hi => cell_later hB9 (HPo8.out i hi)
        clear hNN hM hMi hB9 HS8 HB8 HBd HSe8 HPo8 H12
        go_wp2
        go_loopw [19, 20] (fun wv kv wr => ∃ (wb : Bool) (k N : Nat), wv = .bool wb ∧ kv = .int .i64 k ∧ k ≤ 0 ∧ wr = w9.drewN N ∧ Hid (wb = true ↔ Some6 (Gr.mk n deg E) ⟨S, sn, pos⟩ r fv k)) (fun _ kv _ => 0 - (intOf kv).toNat)
        case atStart => exact ⟨false, 0, 0, rfl, rfl, Nat.zero_le _, rfl, ⟨fun h => Bool.noConfusion h, fun ⟨k, hk, _⟩ => absurd hk (Nat.not_lt_zero k)⟩⟩
        case round =>
          obtain ⟨wb, k, N, rfl, rfl, hk, rfl, hwb⟩ := hrel
          cases wb with
          | true =>
            have hg : got = true := by
              refine HGot.out.2 ?_
              obtain ⟨j, hj, hx⟩ := hwb.out.1 rfl
              exact ⟨j, by omega, hx⟩
            subst hg
            obtain rfl : k = 0 := by omega
            go_wp2
            go_ret
            exact ⟨rfl, below_drewN HB9.out _⟩
          | false =>
            by_cases hlt : k < 0
            · exact absurd hlt (Nat.not_lt_zero k)
            · obtain rfl : k = 0 := by omega
              have hg : got = false := by
                cases hgg : got with
                | false => rfl
                | true => exact absurd (hwb.out.2 (HGot.out.1 hgg)) (by simp)
              subst hg
              go_wp2
              go_ret
              exact ⟨rfl, below_drewN HB9.out _⟩
  | some ad =>
    go_wp2_with (refine copy_fv hF.out _ rfl rfl rfl rfl ?_)
    intro w4 HF4 HB
    have HB4 := hid HB
    have HS4 := hid (hS.out.later HB)
    have HSe4 := hid (hse.out.later HB)
    have HPo4 := hid (hpo.out.later HB)
    clear HB hS hse hpo hF
    clear hmk q25
    go_wp2
    go_loop [15] (fun i => ∃ k : Nat, k ≤ lf ∧ i = .int .i64 k ∧ Hid (∀ j, j < k → fv j < n)) (fun i => lf - (intOf i).toNat)
    case atStart => exact ⟨0, Nat.zero_le _, rfl, fun i hi => by omega⟩
    case round =>
      obtain ⟨k, hk, rfl, hall⟩ := hrel
      by_cases hlt : k < lf
      · have d5 := HF4.out k hlt
        go_wp2
        all_goals try (go_ret; exact ⟨rfl, HB4.out⟩)
        have hz : fv k < n := by assumption
        go_round
        case rel => exact ⟨k + 1, by omega, by go_num, fun i hi => by
          by_cases e : i = k
          · subst e; exact hz
          · exact hall.out i (by omega)⟩
        case measure => simp [intOf]; omega
      · obtain rfl : lf = k := by omega
        have H17 := hid (clone64_any aS ls cs ses w4 hls2 HSe4)
        go_wp2_with fail
        refine H17.out.mono ?_
        rintro e w5 ⟨a5, c5, rfl, hR5, hB5⟩
        simp only []
        have HR5 := hid hR5
        have HPo5 := hid (HPo4.out.later hB5)
        have HS5 := hid (HS4.out.later hB5)
        have HB5 := hid (chain HB4.out hB5)
        have HBa := hid hB5
        clear hR5 hB5 H17 HSe4 HPo4 HS4
        have H18 := hid (clone32_any aP lp cp pos w5 hlp2 HPo5)
        go_wp2_with fail
        refine H18.out.mono ?_
        rintro e w6 ⟨a6, c6, rfl, hR6, hB6⟩
        simp only []
        have HS6 := hid (HS5.out.later hB6)
        have HB6 := hid (chain HB5.out hB6)
        have HBb := hid (chain HBa.out hB6)
        have HRs := hid ((HR5.out.later hB6).first (n := n) (g := fun i => .int .i64 ((sn i : Nat) : Int)) hnls (fun i hi => by rw [hsI.out i hi]))
        have HRp := hid (hR6.first (n := n) (g := fun i => .int .i32 (pos i)) hnlp (fun i hi => rfl))
        clear hR6 hB6 H18 HR5 HPo5 HS5 HB5 HBa
        have H19 := hid (zzOrder_any a n c deg A C Z E a5 a6 ls c5 lp c6 S sn pos w6 hn2 HS6 hE hnls hnlp hls2 hlp2 hS2 hnS HRs HRp hes)
        obtain ⟨bs, os, rfl, hcs⟩ := HRs.out (by omega)
        obtain ⟨bp, op, rfl, hcp⟩ := HRp.out (by omega)
        have HCS := hid hcs
        have HCP := hid hcp
        clear hcs hcp
        go_wp2_with fail
        refine H19.out.mono ?_
        rintro e w7 ⟨v7, rfl, hC, hB7⟩
        simp only []
        obtain ⟨b, h, g, m, MS, cc, f, rfl, h0, h1, h2, h4, h5, hMS, hMe, hd1, hd2, hfil⟩ := hC
        have HCA : Hid (CA (Gr.mk n deg E) ⟨S, sn, pos⟩ bs os ls c5 bp op lp c6 b h g m MS cc f w7) := ⟨h0, h1, h2, h4, h5, hMS, hMe, hd1, hd2, fun x hx => cell_later hB7 (HCS.out x hx), fun x hx => cell_later hB7 (HCP.out x hx), hfil⟩
        have HS7 := hid (HS6.out.later hB7)
        have HB7 := hid (chain HB6.out hB7)
        have HBc := hid (chain HBb.out hB7)
        clear h0 h1 h2 h4 h5 hMe hd1 hd2 hfil hB7 H19 HS6 HB6 HBb HCS HCP HRs HRp hsI
        have HF7 : Hid (∀ k, k < lf → w7.cell? ⟨w3.heap.size, k, none⟩ = some (.int .i64 (fv k))) := fun k hk => cell_later HBc.out (HF4.out k hk)
        have H22 := hid (zzValue_any HCA hn2 hS2 hnls hnlp hls2 hlp2 hes r hrn (some ⟨w3.heap.size, 0, none⟩) lf lf fv hlf2 (fun _ => ⟨_, _, rfl, fun k hk => by rw [Nat.zero_add]; exact HF7.out k hk⟩) hall)
        go_wp2_with fail
        refine H22.out.mono ?_
        rintro e w8 ⟨got, rfl, hgot, hB8⟩
        simp only []
        have HGot := hid hgot
        have HS8 := hid (HS7.out.later hB8)
        have HB8 := hid (chain HB7.out hB8)
        have HBd := hid (chain HBc.out hB8)
        have HSe8 : Hid (∀ i, i < n → w8.cell? ⟨bs, os + i, none⟩ = some (.int .i64 ((sn i : Nat) : Int))) := fun i hi => cell_later hB8 (HCA.out.d3 i hi)
        have HPo8 : Hid (∀ i, i < n → w8.cell? ⟨bp, op + i, none⟩ = some (.int .i32 (pos i))) := fun i hi => cell_later hB8 (HCA.out.d4 i hi)
        have HF8 : Hid (∀ k, k < lf → w8.cell? ⟨w3.heap.size, k, none⟩ = some (.int .i64 (fv k))) := fun k hk => cell_later hB8 (HF7.out k hk)
        clear HF7 HF4
        clear hgot hB8 H22 HS7 HB7 HBc HCA
        have H12 := hid (matrix_any a n c deg A C Z E w8 hn2 HS8 hE)
        go_wp2_with fail
        refine H12.out.mono ?_
        rintro e w9 ⟨M, rfl, hM, hMi, hB9⟩
        simp only []
        obtain ⟨NN, hNN⟩ : ∃ NN : Nat, NN = n * n := ⟨_, rfl⟩
        have hNle : NN ≤ 262144 := by rw [hNN]; exact Nat.le_trans (Nat.mul_le_mul hn2 hn2) (by omega)
        rw [← hNN] at hM ⊢
        have HNN := hid hNN
        have HM := hid (fun t (ht : t < NN) => hM.cell ht)
        have HMi := hid hMi
        have HB9 := hid (chain HB8.out hB9)
        have HSe9 : Hid (∀ i, i < n → w9.cell? ⟨bs, os + i, none⟩ = some (.int .i64 ((sn i : Nat) : Int))) := fun i hi => cell_later hB9 (HSe8.out i hi)
        have HPo9 : Hid (∀ i, i < n → w9.cell? ⟨bp, op + i, none⟩ = some (.int .i32 (pos i))) := fun i hi => cell_later hB9 (HPo8.out i hi)
        have HF9 : Hid (∀ k, k < lf → w9.cell? ⟨w3.heap.size, k, none⟩ = some (.int .i64 (fv k))) := fun k hk => cell_later hB9 (HF8.out k hk)
        clear HF8
        clear hNN hM hMi hB9 HS8 HB8 HBd HSe8 HPo8 H12
        go_wp2
        go_loopw [19, 20] (fun wv kv wr => ∃ (wb : Bool) (k N : Nat), wv = .bool wb ∧ kv = .int .i64 k ∧ k ≤ lf ∧ wr = w9.drewN N ∧ Hid (wb = true ↔ Some6 (Gr.mk n deg E) ⟨S, sn, pos⟩ r fv k)) (fun _ kv _ => lf - (intOf kv).toNat)
        case atStart => exact ⟨false, 0, 0, rfl, rfl, Nat.zero_le _, rfl, ⟨fun h => Bool.noConfusion h, fun ⟨k, hk, _⟩ => absurd hk (Nat.not_lt_zero k)⟩⟩
        case round =>
          obtain ⟨wb, k, N, rfl, rfl, hk, rfl, hwb⟩ := hrel
          cases wb with
          | true =>
            have hg : got = true := by
              refine HGot.out.2 ?_
              obtain ⟨j, hj, hx⟩ := hwb.out.1 rfl
              exact ⟨j, by omega, hx⟩
            subst hg
            by_cases hlt : k < lf
            all_goals
              go_wp2
              go_ret
              exact ⟨rfl, below_drewN HB9.out _⟩
          | false =>
            by_cases hlt : k < lf
            · have d5 := HF9.out k hlt
              by_cases h0 : 0 ≤ fv k
              · obtain ⟨x0, hx0⟩ : ∃ x0 : Nat, fv k = (x0 : Int) := ⟨(fv k).toNat, by omega⟩
                have hxn : x0 < n := by have := hall.out k hlt; omega
                rw [hx0] at d5 h0
                have HX := hid hx0
                clear hx0
                have s0 := HSe9.out x0 hxn
                have p0 := HPo9.out x0 hxn
                have j1 : (x0 : Int) < (ls : Int) := by omega
                have j2 : (x0 : Int) < (lp : Int) := by omega
                go_wp2
                go_loopw [19, 22] (fun wv xv wr => ∃ (x N : Nat), wv = .bool false ∧ xv = .int .i64 x ∧ x ≤ n ∧ wr = w9.drewN N ∧ Hid (∀ y, y < x → ¬ (sn y = sn x0 ∧ pos x0 ≤ pos y ∧ (Gr.mk n deg E).reach y r))) (fun _ xv _ => n - (intOf xv).toNat)
                case atStart => exact ⟨0, N, rfl, rfl, Nat.zero_le _, rfl, fun y hy => by omega⟩
                case round =>
                  obtain ⟨x, N2, rfl, rfl, hx, rfl, hno⟩ := hrel
                  by_cases hlt2 : x < n
                  · obtain ⟨P, hP⟩ : ∃ P : Nat, P = x * n := ⟨_, rfl⟩
                    have hPI : (x : Int) * (n : Int) = (P : Int) := by rw [hP]; simp
                    have hPN : P + r < NN := by rw [hP, HNN.out]; exact flat_lt hrn hlt2
                    have m1 := HM.out (P + r) hPN
                    have s1 := HSe9.out x hlt2
                    have p1 := HPo9.out x hlt2
                    have HP : Hid (M (P + r) = true ↔ (Gr.mk n deg E).reach x r) := by rw [hP]; exact HMi.out x r hlt2 hrn
                    clear hP
                    have i1 : (x : Int) < (ls : Int) := by omega
                    have i3 : (x : Int) < (lp : Int) := by omega
                    have i5 : (P : Int) + (r : Int) < (NN : Int) := by omega
                    have hnext : Hid (¬ (sn x = sn x0 ∧ pos x0 ≤ pos x ∧ M (P + r) = true) → ∀ y, y < x + 1 → ¬ (sn y = sn x0 ∧ pos x0 ≤ pos y ∧ (Gr.mk n deg E).reach y r)) := fun hn1 y hy hyy => by
                      by_cases e : y = x
                      · subst e; exact hn1 ⟨hyy.1, hyy.2.1, HP.out.2 hyy.2.2⟩
                      · exact hno.out y (by omega) hyy
                    cases hMM : M (P + r) with
                    | false =>
                      rw [hMM] at m1
                      go_wp2
                      go_quiet (fail)
                      go_wp2
                      go_roundw
                      case rel => exact ⟨x + 1, _, rfl, by go_num, by omega, rfl, hnext.out (fun hh => by rw [hMM] at hh; exact Bool.noConfusion hh.2.2)⟩
                      case measure => simp [intOf]; omega
                    | true =>
                      rw [hMM] at m1
                      by_cases hss : sn x = sn x0
                      · have e2 : (((sn x : Nat) : Int) == ((sn x0 : Nat) : Int)) = true := by simp [hss]
                        have e2' : ((sn x : Nat) : Int) = ((sn x0 : Nat) : Int) := by omega
                        by_cases hpp : pos x0 ≤ pos x
                        · have e3 : decide (pos x0 ≤ pos x) = true := by simp [hpp]
                          have HL : Hid (Late (Gr.mk n deg E) ⟨S, sn, pos⟩ r x0) := ⟨x, hlt2, hss, hpp, HP.out.1 hMM⟩
                          go_wp2
                          go_quiet (fail)
                          go_wp2
                          go_roundw
                          case rel => exact ⟨true, k + 1, _, rfl, by go_num, by omega, rfl, ⟨fun _ => ⟨k, by omega, x0, HX.out, HL.out⟩, fun _ => rfl⟩⟩
                          case measure => simp [intOf]; omega
                        · have e3 : decide (pos x0 ≤ pos x) = false := by simp; omega
                          go_wp2
                          go_quiet (fail)
                          go_wp2
                          go_roundw
                          case rel => exact ⟨x + 1, _, rfl, by go_num, by omega, rfl, hnext.out (fun hh => by have := hh.2.1; omega)⟩
                          case measure => simp [intOf]; omega
                      · have e2 : (((sn x : Nat) : Int) == ((sn x0 : Nat) : Int)) = false := by simp; omega
                        go_wp2
                        go_quiet (fail)
                        go_wp2
                        go_roundw
                        case rel => exact ⟨x + 1, _, rfl, by go_num, by omega, rfl, hnext.out (fun hh => hss hh.1)⟩
                        case measure => simp [intOf]; omega
                  · obtain rfl : n = x := by omega
                    have HW : Hid (false = true ↔ Some6 (Gr.mk n deg E) ⟨S, sn, pos⟩ r fv (k + 1)) := ⟨fun h => Bool.noConfusion h, fun ⟨j, hj, x, hx, hL⟩ => by
                      by_cases e : j = k
                      · subst e
                        have e2 : x0 = x := by have := HX.out; omega
                        subst e2
                        obtain ⟨y, hy, q1, q2, q3⟩ := hL
                        exact absurd ⟨q1, q2, q3⟩ (hno.out y hy)
                      · exact hwb.out.2 ⟨j, by omega, x, hx, hL⟩⟩
                    go_wp2
                    go_roundw
                    case rel => exact ⟨false, k + 1, _, rfl, by go_num, by omega, rfl, HW⟩
                    case measure => simp [intOf]; omega
              · have HW : Hid (false = true ↔ Some6 (Gr.mk n deg E) ⟨S, sn, pos⟩ r fv (k + 1)) := ⟨fun h => Bool.noConfusion h, fun ⟨j, hj, x, hx, hL⟩ => by
                  by_cases e : j = k
                  · subst e; omega
                  · exact hwb.out.2 ⟨j, by omega, x, hx, hL⟩⟩
                go_wp2
                go_roundw
                case rel => exact ⟨false, k + 1, _, rfl, by go_num, by omega, rfl, HW⟩
                case measure => simp [intOf]; omega
            · obtain rfl : k = lf := by omega
              have hg : got = false := by
                cases hgg : got with
                | false => rfl
                | true => exact absurd (hwb.out.2 (HGot.out.1 hgg)) (by simp)
              subst hg
              go_wp2
              go_ret
              exact ⟨rfl, below_drewN HB9.out _⟩

end Go.Proofs.Qxb6602016a
