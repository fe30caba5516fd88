/-
  THE WALKS of seat b6602016a: the outer loop of stronglyConnected.
-/
import Derived.Test.Qxb6602016aJ2
namespace Go.Proofs.Qxb6602016a
open Go.RowKit Tar
set_option linter.unusedVariables false

theorem news_set2 (w : World) (a b : Addr) (x y : Value) (v : Nat) : ∀ j u, [iv v][j]? = some u → (((w.setCell a x).setCell b y).alloc (.cells #[iv v] 3)).cell? ((⟨w.heap.size, 0, none⟩ : Addr).add j) = some u := by
  have := cell_one_new ((w.setCell a x).setCell b y) (iv v) 3
  simpa only [World.size_setCell] using this

set_option maxRecDepth 100000 in
set_option maxHeartbeats 2000000 in
/-- All roots have been tried: the loop is left. -/
theorem o_done (W : World) (a : Option Addr) (k c comps found : Nat) (vo vs vp : Value) (x : Nat → Value) (wr : World) (Q : Exit → Act → World → Prop)
    (hQ : Hid (∀ t', Fi W a k c k comps found vo vs vp t' → Q (.exit 2) ⟨t', []⟩ wr)) :
    Code.wp Try.prog ((loopsOf (Try.f25.body.getD .skip)).getD 1 .skip) Q ⟨lt W a k c k comps found vo vs vp x, []⟩ wr := by
  conv => arg 2; whnf
  unfold lt lit
  go_wp2
  exact hQ.out _ ⟨rfl, rfl, rfl, rfl, rfl, rfl, rfl, rfl, rfl, rfl, rfl, rfl, rfl⟩

set_option maxRecDepth 100000 in
set_option maxHeartbeats 2000000 in
/-- The root was found already. -/
theorem o_skip (W : World) (a : Option Addr) (k c i comps found j : Nat) (vo vs vp : Value) (x : Nat → Value) (wr : World) (Q : Exit → Act → World → Prop) (hk : k ≤ 512) (hi : i < k) (hj : 1 ≤ j) (hI : wr.cell? ⟨W.heap.size + 1, i, none⟩ = some (.int .i64 (j : Int)))
    (hQ : Hid (∀ t', Fi W a k c (i + 1) comps found vo vs vp t' → Q .normal ⟨t', []⟩ wr)) :
    Code.wp Try.prog ((loopsOf (Try.f25.body.getD .skip)).getD 1 .skip) Q ⟨lt W a k c i comps found vo vs vp x, []⟩ wr := by
  conv => arg 2; whnf
  unfold lt lit
  have i1 : (i : Int) < (k : Int) := by omega
  have h0b : (((j : Nat) : Int) != 0) = true := by simp; omega
  go_wp2
  exact hQ.out _ ⟨rfl, rfl, rfl, rfl, rfl, rfl, rfl, rfl, rfl, rfl, rfl, rfl, by simp⟩

/-- What holds at the head of the outer loop. -/
def Outer (W : World) (a : Option Addr) (c : Nat) (G : Gr) (i : Nat) (t : Array Value) (wr : World) : Prop :=
  ∃ (s : St) (aS : Option Addr) (cS : Nat) (aP : Option Addr) (cP : Nat) (aO : Option Addr) (lO cO : Nat),
    Fi W a G.n c i s.comps s.found (.slice aO lO cO) (.slice aS 0 cS) (.slice aP 0 cP) t ∧ Tm W.heap.size G.n s (.slice aS 0 cS) (.slice aP 0 cP) (.slice aO lO cO) wr ∧ Inv G s ∧ s.path = [] ∧ (∀ x, x < i → s.idx x ≠ 0) ∧ Below W.heap.size W wr

set_option maxRecDepth 100000 in
set_option maxHeartbeats 4000000 in
/-- A root is found, and all that is reached from it. -/
theorem o_find (W : World) (a : Option Addr) (k c i : Nat) (deg : Nat → Nat) (A : Nat → Option Addr) (C : Nat → Nat) (Z : Nat → Nat → Int) (E : Nat → Nat → Nat) (s : St) (aS : Option Addr) (cS : Nat) (aP : Option Addr) (cP : Nat) (aO : Option Addr) (lO cO : Nat) (x : Nat → Value) (wr : World) (Q : Exit → Act → World → Prop)
    (hn : k ≤ 512) (hlt1 : i < k) (h0 : s.idx i = 0) (hS : Hid (Succ W a k deg A C Z)) (hE : Hid (∀ i, i < k → ∀ j, j < deg i → Z i j = (E i j : Int) ∧ E i j < k))
    (hT : Hid (Tm W.heap.size k s (.slice aS 0 cS) (.slice aP 0 cP) (.slice aO lO cO) wr)) (hI : Hid (Inv (Gr.mk k deg E) s)) (hpn : Hid (s.path = [])) (hfd : Hid (∀ x, x < i → s.idx x ≠ 0)) (HB : Hid (Below W.heap.size W wr))
    (hQ : Hid (∀ t' w', Outer W a c (Gr.mk k deg E) (i + 1) t' w' → Q .normal ⟨t', []⟩ w')) :
    Code.wp Try.prog ((loopsOf (Try.f25.body.getD .skip)).getD 1 .skip) Q ⟨lt W a k c i s.comps s.found (.slice aO lO cO) (.slice aS 0 cS) (.slice aP 0 cP) x, []⟩ wr := by
  conv => arg 2; whnf
  unfold lt lit
  obtain ⟨i3, hi3, hz0, hz1, hz2⟩ := info_parts Try.info3
  obtain ⟨i48, hi48, hy0, hy1, hy2⟩ := info_parts Try.info48
  have i1 : (i : Int) < (k : Int) := by omega
  have d1 := hT.out.ri.cell hlt1
  obtain ⟨f, hf⟩ : ∃ f : Nat, f = s.found + 1 := ⟨_, rfl⟩
  have hfI : (s.found : Int) + 1 = (f : Int) := by omega
  have hfn := hI.out.found_le
  have hfn' : s.found ≤ 512 := Nat.le_trans hfn hn
  have h0b : (((s.idx i : Nat) : Int) != 0) = false := by simp [h0]
  have HF := hid hf
  have fr1 := hT.out.ri.frozen i
  have fr2 := hT.out.rl.frozen i
  have d2 := hT.out.rl.cell hlt1
  have T3 := hid ((hT.out.setIdx i f).setLow i f)
  have hsl : Hid (s.stack.length = 0) := by show _ = _; rw [hI.out.stack_nil hpn.out]; rfl
  have hpl : Hid (s.path.length = 0) := by show _ = _; rw [hpn.out]; rfl
  have B3 := hid ((HB.out.setCell (p := ⟨W.heap.size + 1, i, none⟩) (by simp) (iv f)).setCell (p := ⟨W.heap.size + 2, i, none⟩) (by simp) (iv f))
  have hlt3 := hT.out.lt
  have hos3 : Hid (((wr.setCell ⟨W.heap.size + 1, i, none⟩ (iv f)).setCell ⟨W.heap.size + 2, i, none⟩ (iv f)).ownsRow (W.heap.size + 3) 3 1 (.slice aS 0 cS) 0 []) := by
    have h1 := T3.out.os
    have h2 : s.stack = [] := hI.out.stack_nil hpn.out
    simp only [h2] at h1
    exact h1
  clear hf hfn
  go_wp2_with (at_builtin; go_must (refine wpList_append_lies _ rfl (.tmp 57) (.tmp 59) 25 rfl (W.heap.size + 3) 3 i3 (.int .i64 0) 1 8 Try.underlying25 hi3 hz0 hz1 hz2 rfl (by decide) _ _ _ rfl (hos3.out.alloc _) ⟨wr.heap.size, 0, none⟩ 1 1 [iv i] rfl rfl (news_set2 wr _ _ _ _ i) (one_iv i) (by omega) (by unfold maxLen; omega) (by omega) (by simp; omega) (wr.heap.size + 1) (by simp) ?_))
  intro g1 cap1 w2 hown1 hgrow1 hat1 hl1
  have T4 : Hid (Tm W.heap.size k { s with idx := upd s.idx i f, low := upd s.low i f, stack := s.stack ++ [i] } (.slice (some ⟨g1, 0, none⟩) 1 cap1) (.slice aP 0 cP) (.slice aO lO cO) w2) := by
    have h1 := T3.out.pushStack (x := i) (g := g1) (cap := cap1) (w1 := w2) (o := .cells #[iv i] 3) (by
      have h2 : s.stack = [] := hI.out.stack_nil hpn.out
      simp only [h2]
      exact hown1) hgrow1 (by simpa using hat1)
    have h2 : s.stack.length + 1 = 1 := by have := hsl.out; omega
    simp only [h2] at h1
    exact h1
  have hop4 : Hid (w2.ownsRow (W.heap.size + 3) 48 2 (.slice aP 0 cP) 0 []) := by
    have h1 := T4.out.op
    have h2 : frames { s with idx := upd s.idx i f, low := upd s.low i f, stack := s.stack ++ [i] } = [] := by unfold frames; simp [hpn.out]
    rw [h2] at h1
    have h3 : s.path.length = 0 := hpl.out
    simp only [h3] at h1
    exact h1
  have hlt4 := T4.out.lt
  have B4 := hid ((B3.out.alloc (by have := B3.out.size; simpa using this) (.cells #[iv i] 3)).grown hgrow1 (by have := B3.out.size; simp at this; simp; omega) (by
    intro j hj
    have h1 := (hos3.out.lt j hj).1
    omega))
  clear hown1 hgrow1 hat1 hl1 B3 hos3 T3
  go_wp2_with (at_builtin; go_must (refine wpList_append_lies _ rfl (.tmp 61) (.tmp 64) 46 rfl (W.heap.size + 3) 48 i48 (.agg #[.int .i64 0, .int .i64 0]) 2 16 Try.underlying46 hi48 hy0 hy1 hy2 rfl (by decide) _ _ _ rfl (hop4.out.alloc _) ⟨w2.heap.size, 0, none⟩ 1 1 [iv i, iv 0] rfl rfl (cell_two_new w2 (iv i) (iv 0) 48) (two_iv i 0) (by omega) (by unfold maxLen; omega) (by omega) (by simp; omega) (w2.heap.size + 1) (by simp) ?_))
  intro g2 cap2 w3 hown2 hgrow2 hat2 hl2
  have T5 : Hid (Tm W.heap.size k { s with idx := upd s.idx i f, low := upd s.low i f, stack := s.stack ++ [i], path := [i], found := f } (.slice (some ⟨g1, 0, none⟩) 1 cap1) (.slice (some ⟨g2, 0, none⟩) 1 cap2) (.slice aO lO cO) w3) := by
    have hf0 : frames { s with idx := upd s.idx i f, low := upd s.low i f, stack := s.stack ++ [i] } = [] := by unfold frames; simp [hpn.out]
    have h3 : s.path.length = 0 := hpl.out
    have h1 := T4.out.pushPath (x := i) (g := g2) (cap := cap2) (w1 := w3) (o := .cells #[iv i, iv 0] 48) (hI.out.pun i h0) (by
      rw [hf0]
      simp only [h3]
      exact hown2) hgrow2 (by simpa using hat2)
    simp only [hpn.out] at h1
    exact ⟨h1.rc, h1.ri, h1.rl, h1.os, h1.op, h1.oo, h1.sp, h1.so, h1.po⟩
  have B5 := hid ((B4.out.alloc B4.out.size (.cells #[iv i, iv 0] 48)).grown hgrow2 (by have := B4.out.size; simp; omega) (by
    intro j hj
    have h1 := (hop4.out.lt j hj).1
    omega))
  have I5 : Hid (Inv (Gr.mk k deg E) { s with idx := upd s.idx i f, low := upd s.low i f, stack := s.stack ++ [i], path := [i], found := f }) := by
    have h1 := hI.out.find i hlt1 h0 s.ptr hI.out.pdeg hI.out.pun hI.out.pfin (fun u e he => .inl he) (by rw [hpn.out]; intro p hp; cases hp)
    rw [hpn.out, ← HF.out] at h1
    exact h1
  clear hown2 hgrow2 hat2 hl2 B4 hop4 T4
  have hfd5 : Hid (∀ x, x < i + 1 → upd s.idx i f x ≠ 0) := fun x hx => by
    by_cases e : x = i
    · subst e; rw [upd_same]; have := HF.out; omega
    · rw [upd_other _ _ _ _ e]; exact hfd.out x (by omega)
  have hls5 : Hid (lO = s.order.length) := by
    show _ = _
    rcases hT.out.oo.2 with ⟨h1, h2⟩ | ⟨g, cap, cur, h1, _⟩
    · cases h1; exact h2.symm
    · simp only [Value.slice.injEq] at h1; exact h1.2.1
  have hst5 : Hid (s.stack = []) := hI.out.stack_nil hpn.out
  clear hT hI hfd HB d1 d2 fr1 fr2 hsl hpl hlt3 hlt4 h0b hfn' hfI
  go_wp2
  refine inner_loop W a c (Gr.mk k deg E) i A C Z hn hS.out hE.out (rest (Gr.mk k deg E) { s with idx := upd s.idx i f, low := upd s.low i f, stack := s.stack ++ [i], path := [i], found := f }) _ _ ?_ _ ?_
  · exact ⟨{ s with idx := upd s.idx i f, low := upd s.low i f, stack := s.stack ++ [i], path := [i], found := f }, _, _, _, _, _, _, _, _, _, ⟨rfl, rfl, rfl, rfl, rfl, rfl, rfl, rfl, rfl, rfl, rfl, rfl, rfl⟩, ⟨T5.out, I5.out, by show 1 = (s.stack ++ [i]).length; rw [hst5.out]; rfl, rfl, hls5.out, hfd5.out, B5.out⟩, Nat.le_refl _⟩
  · intro t' w' s' aS' cS' aP' cP' aO' lO' cO' hF' hM hp'
    obtain ⟨x', rfl⟩ := hF'.lit
    have HM := hid hM
    have HP := hid hp'
    clear hF' hM hp' T5 I5 B5 hfd5 hls5 hst5
    unfold lit
    go_wp2
    exact hQ.out _ _ ⟨s', aS', cS', aP', cP', aO', lO', cO', ⟨rfl, rfl, rfl, rfl, rfl, rfl, rfl, rfl, rfl, rfl, rfl, rfl, by simp⟩, HM.out.tm, HM.out.inv, HP.out, HM.out.fd, HM.out.bel⟩

/-- THE OUTER LOOP. -/
theorem outer_loop (W : World) (a : Option Addr) (k c i : Nat) (deg : Nat → Nat) (A : Nat → Option Addr) (C : Nat → Nat) (Z : Nat → Nat → Int) (E : Nat → Nat → Nat) (hn : k ≤ 512) (hS : Succ W a k deg A C Z) (hE : ∀ i, i < k → ∀ j, j < deg i → Z i j = (E i j : Int) ∧ E i j < k)
    (hi : i ≤ k) (t : Array Value) (wr : World) (hO : Outer W a c (Gr.mk k deg E) i t wr) (Q : Exit → Act → World → Prop)
    (hQ : ∀ t' w', Outer W a c (Gr.mk k deg E) k t' w' → Q (.exit 2) ⟨t', []⟩ w') :
    Code.wp Try.prog (.loop ((loopsOf (Try.f25.body.getD .skip)).getD 1 .skip)) Q ⟨t, []⟩ wr := by
  refine wp_loop_ghost (fun m act w => ∃ i t, i ≤ k ∧ m = k - i ∧ act = ⟨t, []⟩ ∧ Outer W a c (Gr.mk k deg E) i t w) (k - i) ⟨i, t, hi, rfl, rfl, hO⟩ ?_
  rintro m act w ⟨i, t, hi, rfl, rfl, s, aS, cS, aP, cP, aO, lO, cO, hF, hT, hI, hp, hfd, hB⟩
  obtain ⟨x, rfl⟩ := hF.lit
  by_cases hlt : i < k
  · by_cases h0 : s.idx i = 0
    · refine o_find W a k c i deg A C Z E s aS cS aP cP aO lO cO x w _ hn hlt h0 (hid hS) (hid hE) (hid hT) (hid hI) (hid hp) (hid hfd) (hid hB) (hid ?_)
      intro t' w' hO'
      exact ⟨k - (i + 1), by omega, i + 1, t', by omega, rfl, rfl, hO'⟩
    · refine o_skip W a k c i s.comps s.found (s.idx i) _ _ _ x w _ hn hlt (by omega) (hT.ri.cell hlt) (hid ?_)
      intro t' hF'
      refine ⟨k - (i + 1), by omega, i + 1, t', by omega, rfl, rfl, s, aS, cS, aP, cP, aO, lO, cO, hF', hT, hI, hp, ?_, hB⟩
      intro y hy
      by_cases e : y = i
      · rw [e]; exact h0
      · exact hfd y (by omega)
  · obtain rfl : i = k := by omega
    refine o_done W a i c s.comps s.found _ _ _ x w _ (hid ?_)
    intro t' hF'
    exact hQ t' w ⟨s, aS, cS, aP, cP, aO, lO, cO, hF', hT, hI, hp, hfd, hB⟩

end Go.Proofs.Qxb6602016a
