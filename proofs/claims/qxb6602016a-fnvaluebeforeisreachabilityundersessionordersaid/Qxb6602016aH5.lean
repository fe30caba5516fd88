/-
  THE WALKS of seat b6602016a: the closing loop of stronglyConnected: one turn.
-/
import Derived.Test.Qxb6602016aF2
namespace Go.Proofs.Qxb6602016a
open Go.RowKit Tar
set_option linter.unusedVariables false

theorem news_set1 (w : World) (a : Addr) (x : Value) (v : Nat) : ∀ j u, [iv v][j]? = some u → ((w.setCell a x).alloc (.cells #[iv v] 3)).cell? ((⟨w.heap.size, 0, none⟩ : Addr).add j) = some u := by
  have := cell_one_new (w.setCell a x) (iv v) 3
  simpa only [World.size_setCell] using this

set_option maxRecDepth 100000 in
set_option maxHeartbeats 4000000 in
/-- A node above v is taken off: the loop goes on. -/
theorem r_shut1 (W : World) (a : Option Addr) (k c i comps found v : Nat) (aO : Option Addr) (lO cO : Nat) (g lS cS : Nat) (vp : Value) (y : Nat) (cy : Int) (s : St) (x : Nat → Value) (wr : World) (Q : Exit → Act → World → Prop)
    (hk : k ≤ 512) (hy : y < k) (hlO : lO ≤ 512) (hlS : lS + 1 ≤ 512) (hcS : lS + 1 ≤ cS) (hg : W.heap.size + 3 ≤ g)
    (t1 : wr.cell? ⟨g, lS, none⟩ = some (.int .i64 (y : Int))) (hC : wr.cell? ⟨W.heap.size, y, none⟩ = some (.int .i64 cy)) (hF : wr.frozen? ⟨W.heap.size, y, none⟩ = false) (hne : ¬ ((y : Int) = (v : Int)))
    (hB : Hid (Below W.heap.size W wr)) (hlo : Hid (lO = s.order.length))
    (hT : Hid (Tm W.heap.size k s (.slice (some ⟨g, 0, none⟩) lS cS) vp (.slice aO lO cO) (wr.setCell ⟨W.heap.size, y, none⟩ (.int .i64 (comps : Int)))))
    (hQ : Hid (∀ t' w' g1 c1, Fc W a k c i comps found v (.slice (some ⟨g1, 0, none⟩) (lO + 1) c1) (.slice (some ⟨g, 0, none⟩) lS cS) vp t' →
      Tm W.heap.size k { s with order := s.order ++ [y] } (.slice (some ⟨g, 0, none⟩) lS cS) vp (.slice (some ⟨g1, 0, none⟩) (lO + 1) c1) w' → Below W.heap.size W w' → Q .normal ⟨t', []⟩ w')) :
    Code.wp Try.prog ((loopsOf (Try.f25.body.getD .skip)).getD 3 .skip) Q ⟨lc W a k c i comps found v (.slice aO lO cO) (.slice (some ⟨g, 0, none⟩) (lS + 1) cS) vp x, []⟩ wr := by
  conv => arg 2; whnf
  unfold lc lit2
  obtain ⟨i3, hi3, hz0, hz1, hz2⟩ := info_parts Try.info3
  have i1 : (y : Int) < (k : Int) := by omega
  have hoo : Hid (World.ownsRow (wr.setCell ⟨W.heap.size, y, none⟩ (.int .i64 (comps : Int))) (W.heap.size + 3) 3 1 (.slice aO lO cO) lO (s.order.map iv)) := hid (by
    have h1 := hT.out.oo
    rw [← hlo.out] at h1
    exact h1)
  have hlt := hT.out.lt
  simp only [World.size_setCell] at hlt
  have hB0 := hB.out.size
  go_wp2_with (at_builtin; go_must (refine wpList_append_lies _ rfl (.tmp 197) (.tmp 199) 25 rfl (W.heap.size + 3) 3 i3 (.int .i64 0) 1 8 Try.underlying25 hi3 hz0 hz1 hz2 rfl (by decide) _ _ _ rfl (hoo.out.alloc _) ⟨wr.heap.size, 0, none⟩ 1 1 [iv y] rfl rfl (news_set1 wr _ _ y) (one_iv y) (by omega) (by unfold maxLen; omega) (by omega) (by simp; omega) (wr.heap.size + 1) (by simp) ?_))
  intro g1 cap1 w2 hown1 hgrow1 hat1 hl1
  have T4 : Hid (Tm W.heap.size k { s with order := s.order ++ [y] } (.slice (some ⟨g, 0, none⟩) lS cS) vp (.slice (some ⟨g1, 0, none⟩) (lO + 1) cap1) w2) := hid (by
    have h1 := hT.out.pushOrder (x := y) (g := g1) (cap := cap1) (w1 := w2) (o := .cells #[iv y] 3) (by
      rw [← hlo.out]
      exact hown1) hgrow1 (by simpa using hat1)
    rw [← hlo.out] at h1
    exact h1)
  have B4 : Hid (Below W.heap.size W w2) := hid (by
    have b1 := hB.out.setCell (p := ⟨W.heap.size, y, none⟩) (by simp) (.int .i64 (comps : Int))
    refine (b1.alloc b1.size (.cells #[iv y] 3)).grown hgrow1 ?_ ?_
    · have := b1.size
      simp at this
      simp; omega
    · intro j hj
      have h1 := (hoo.out.lt j hj).1
      omega)
  clear hown1 hgrow1 hat1 hl1 hoo
  go_wp2
  refine hQ.out _ _ _ _ ?_ T4.out B4.out
  exact ⟨rfl, rfl, rfl, rfl, rfl, rfl, rfl, rfl, rfl, rfl, rfl, rfl, rfl, rfl⟩

set_option maxRecDepth 100000 in
set_option maxHeartbeats 4000000 in
/-- v itself is taken off: the loop is left. -/
theorem r_shut2 (W : World) (a : Option Addr) (k c i comps found v : Nat) (aO : Option Addr) (lO cO : Nat) (g lS cS : Nat) (vp : Value) (y : Nat) (cy : Int) (s : St) (x : Nat → Value) (wr : World) (Q : Exit → Act → World → Prop)
    (hk : k ≤ 512) (hy : y < k) (hlO : lO ≤ 512) (hlS : lS + 1 ≤ 512) (hcS : lS + 1 ≤ cS) (hg : W.heap.size + 3 ≤ g)
    (t1 : wr.cell? ⟨g, lS, none⟩ = some (.int .i64 (y : Int))) (hC : wr.cell? ⟨W.heap.size, y, none⟩ = some (.int .i64 cy)) (hF : wr.frozen? ⟨W.heap.size, y, none⟩ = false) (hne : y = v)
    (hB : Hid (Below W.heap.size W wr)) (hlo : Hid (lO = s.order.length))
    (hT : Hid (Tm W.heap.size k s (.slice (some ⟨g, 0, none⟩) lS cS) vp (.slice aO lO cO) (wr.setCell ⟨W.heap.size, y, none⟩ (.int .i64 (comps : Int)))))
    (hQ : Hid (∀ t' w' g1 c1, Fc W a k c i comps found v (.slice (some ⟨g1, 0, none⟩) (lO + 1) c1) (.slice (some ⟨g, 0, none⟩) lS cS) vp t' →
      Tm W.heap.size k { s with order := s.order ++ [y] } (.slice (some ⟨g, 0, none⟩) lS cS) vp (.slice (some ⟨g1, 0, none⟩) (lO + 1) c1) w' → Below W.heap.size W w' → Q (.exit 6) ⟨t', []⟩ w')) :
    Code.wp Try.prog ((loopsOf (Try.f25.body.getD .skip)).getD 3 .skip) Q ⟨lc W a k c i comps found v (.slice aO lO cO) (.slice (some ⟨g, 0, none⟩) (lS + 1) cS) vp x, []⟩ wr := by
  subst hne
  conv => arg 2; whnf
  unfold lc lit2
  obtain ⟨i3, hi3, hz0, hz1, hz2⟩ := info_parts Try.info3
  have i1 : (y : Int) < (k : Int) := by omega
  have hoo : Hid (World.ownsRow (wr.setCell ⟨W.heap.size, y, none⟩ (.int .i64 (comps : Int))) (W.heap.size + 3) 3 1 (.slice aO lO cO) lO (s.order.map iv)) := hid (by
    have h1 := hT.out.oo
    rw [← hlo.out] at h1
    exact h1)
  have hlt := hT.out.lt
  simp only [World.size_setCell] at hlt
  have hB0 := hB.out.size
  go_wp2_with (at_builtin; go_must (refine wpList_append_lies _ rfl (.tmp 197) (.tmp 199) 25 rfl (W.heap.size + 3) 3 i3 (.int .i64 0) 1 8 Try.underlying25 hi3 hz0 hz1 hz2 rfl (by decide) _ _ _ rfl (hoo.out.alloc _) ⟨wr.heap.size, 0, none⟩ 1 1 [iv y] rfl rfl (news_set1 wr _ _ y) (one_iv y) (by omega) (by unfold maxLen; omega) (by omega) (by simp; omega) (wr.heap.size + 1) (by simp) ?_))
  intro g1 cap1 w2 hown1 hgrow1 hat1 hl1
  have T4 : Hid (Tm W.heap.size k { s with order := s.order ++ [y] } (.slice (some ⟨g, 0, none⟩) lS cS) vp (.slice (some ⟨g1, 0, none⟩) (lO + 1) cap1) w2) := hid (by
    have h1 := hT.out.pushOrder (x := y) (g := g1) (cap := cap1) (w1 := w2) (o := .cells #[iv y] 3) (by
      rw [← hlo.out]
      exact hown1) hgrow1 (by simpa using hat1)
    rw [← hlo.out] at h1
    exact h1)
  have B4 : Hid (Below W.heap.size W w2) := hid (by
    have b1 := hB.out.setCell (p := ⟨W.heap.size, y, none⟩) (by simp) (.int .i64 (comps : Int))
    refine (b1.alloc b1.size (.cells #[iv y] 3)).grown hgrow1 ?_ ?_
    · have := b1.size
      simp at this
      simp; omega
    · intro j hj
      have h1 := (hoo.out.lt j hj).1
      omega)
  clear hown1 hgrow1 hat1 hl1 hoo
  go_wp2
  refine hQ.out _ _ _ _ ?_ T4.out B4.out
  exact ⟨rfl, rfl, rfl, rfl, rfl, rfl, rfl, rfl, rfl, rfl, rfl, rfl, rfl, rfl⟩
end Go.Proofs.Qxb6602016a
