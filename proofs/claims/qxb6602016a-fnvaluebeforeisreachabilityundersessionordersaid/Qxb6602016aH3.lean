/-
  THE WALKS of seat b6602016a: the inner loop of stronglyConnected: an edge to a node that has not been found.
-/
import Derived.Test.Qxb6602016aG
namespace Go.Proofs.Qxb6602016a
open Go.RowKit Tar
set_option linter.unusedVariables false

theorem news_set3 (w : World) (a b d : Addr) (x y z : Value) (v : Nat) : ∀ j u, [iv v][j]? = some u → ((((w.setCell d z).setCell a x).setCell b y).alloc (.cells #[iv v] 3)).cell? ((⟨w.heap.size, 0, none⟩ : Addr).add j) = some u := by
  have := cell_one_new (((w.setCell d z).setCell a x).setCell b y) (iv v) 3
  simpa only [World.size_setCell] using this

set_option maxRecDepth 100000 in
set_option maxHeartbeats 4000000 in
theorem r_find (W : World) (b0 o0 : Nat) (k c i comps found f : Nat) (vo : Value) (aS : Option Addr) (lS cS : Nat) (g L cP v e d bA oA cA u : Nat) (s : St) (x : Nat → Value) (wr : World) (Q : Exit → Act → World → Prop)
    (hk : k ≤ 512) (hL : L + 1 ≤ k) (hv : v < k) (hu : u < k) (hed : e < d) (hd : d ≤ 9223372036854775807) (hg : W.heap.size + 3 ≤ g) (hfd : found ≤ 512) (hlS : lS ≤ 512) (hf : (found : Int) + 1 = (f : Int)) (lu : Int)
    (t1 : wr.cell? ⟨g, L * 2, none⟩ = some (.int .i64 (v : Int))) (t2 : wr.cell? ⟨g, L * 2 + 1, none⟩ = some (.int .i64 (e : Int))) (t4 : wr.frozen? ⟨g, L * 2 + 1, none⟩ = false)
    (gS : wr.cell? ⟨b0, o0 + v, none⟩ = some (.slice (some ⟨bA, oA, none⟩) d cA)) (gE : wr.cell? ⟨bA, oA + e, none⟩ = some (.int .i64 (u : Int)))
    (hI : wr.cell? ⟨W.heap.size + 1, u, none⟩ = some (.int .i64 0)) (hLw : wr.cell? ⟨W.heap.size + 2, u, none⟩ = some (.int .i64 lu))
    (hF1 : wr.frozen? ⟨W.heap.size + 1, u, none⟩ = false) (hF2 : wr.frozen? ⟨W.heap.size + 2, u, none⟩ = false)
    (hB : Hid (Below W.heap.size W wr)) (hpu : Hid (s.ptr u = 0)) (hls : Hid (lS = s.stack.length)) (hlp : Hid (L + 1 = s.path.length))
    (hT : Hid (∀ q, Tm W.heap.size k s (.slice aS lS cS) (.slice (some ⟨g, 0, none⟩) (L + 1) cP) vo ((((wr.drewN q).setCell ⟨g, L * 2 + 1, none⟩ (.int .i64 ((e : Int) + 1))).setCell ⟨W.heap.size + 1, u, none⟩ (.int .i64 (f : Int))).setCell ⟨W.heap.size + 2, u, none⟩ (.int .i64 (f : Int)))))
    (hQ : Hid (∀ t' w' g1 c1 g2 c2, Fi W (some ⟨b0, o0, none⟩) k c i comps f vo (.slice (some ⟨g1, 0, none⟩) (lS + 1) c1) (.slice (some ⟨g2, 0, none⟩) (L + 1 + 1) c2) t' →
      Tm W.heap.size k { s with stack := s.stack ++ [u], path := s.path ++ [u] } (.slice (some ⟨g1, 0, none⟩) (lS + 1) c1) (.slice (some ⟨g2, 0, none⟩) (L + 1 + 1) c2) vo w' → Below W.heap.size W w' → Q .normal ⟨t', []⟩ w')) :
    Code.wp Try.prog ((loopsOf (Try.f25.body.getD .skip)).getD 2 .skip) Q ⟨lt W (some ⟨b0, o0, none⟩) k c i comps found vo (.slice aS lS cS) (.slice (some ⟨g, 0, none⟩) (L + 1) cP) x, []⟩ wr := by
  conv => arg 2; whnf
  unfold lt lit
  obtain ⟨i3, hi3, hz0, hz1, hz2⟩ := info_parts Try.info3
  obtain ⟨i48, hi48, hy0, hy1, hy2⟩ := info_parts Try.info48
  have i1 : (v : Int) < (k : Int) := by omega
  have i2 : (u : Int) < (k : Int) := by omega
  have i5 : (e : Int) < (d : Int) := by omega
  go_wp2
  go_quiet (fail)
  go_wp2
  go_quiet (fail)
  have hos : Hid (∀ q, World.ownsRow ((((wr.drewN q).setCell ⟨g, L * 2 + 1, none⟩ (.int .i64 ((e : Int) + 1))).setCell ⟨W.heap.size + 1, u, none⟩ (.int .i64 (f : Int))).setCell ⟨W.heap.size + 2, u, none⟩ (.int .i64 (f : Int))) (W.heap.size + 3) 3 1 (.slice aS lS cS) lS (s.stack.map iv)) := hid (fun q => by
    have h1 := (hT.out q).os
    rw [← hls.out] at h1
    exact h1)
  have hlt := (hT.out 0).lt
  simp only [World.size_setCell, World.heap_drewN] at hlt
  have hB0 := hB.out.size
  go_wp2_with (at_builtin; go_must (refine wpList_append_lies _ rfl (.tmp 120) (.tmp 122) 25 rfl (W.heap.size + 3) 3 i3 (.int .i64 0) 1 8 Try.underlying25 hi3 hz0 hz1 hz2 rfl (by decide) _ _ _ rfl ((hos.out _).alloc _) ⟨wr.heap.size, 0, none⟩ 1 1 [iv u] rfl rfl (news_set3 (wr.drewN _) _ _ _ _ _ _ u) (one_iv u) (by omega) (by unfold maxLen; omega) (by omega) (by simp; omega) (wr.heap.size + 1) (by simp) ?_))
  intro g1 cap1 w2 hown1 hgrow1 hat1 hl1
  clear hos
  obtain ⟨q, hgrow, T4⟩ : ∃ q, Hid (World.grownBy (World.alloc ((((wr.drewN q).setCell ⟨g, L * 2 + 1, none⟩ (.int .i64 ((e : Int) + 1))).setCell ⟨W.heap.size + 1, u, none⟩ (.int .i64 (f : Int))).setCell ⟨W.heap.size + 2, u, none⟩ (.int .i64 (f : Int))) (.cells #[iv u] 3)) w2 (Value.slice aS lS cS).ownBlock) ∧
      Hid (Tm W.heap.size k { s with stack := s.stack ++ [u] } (.slice (some ⟨g1, 0, none⟩) (lS + 1) cap1) (.slice (some ⟨g, 0, none⟩) (L + 1) cP) vo w2) := by
    refine ⟨_, hid hgrow1, hid ?_⟩
    have h1 := (hT.out _).pushStack (x := u) (g := g1) (cap := cap1) (w1 := w2) (o := .cells #[iv u] 3) (by
      rw [← hls.out]
      exact hown1) hgrow1 (by simpa using hat1)
    rw [← hls.out] at h1
    exact h1
  have hop : Hid (w2.ownsRow (W.heap.size + 3) 48 2 (.slice (some ⟨g, 0, none⟩) (L + 1) cP) (L + 1) (frames { s with stack := s.stack ++ [u] })) := hid (by
    have h1 := T4.out.op
    have h2 : s.path.length = L + 1 := hlp.out.symm
    simp only [h2] at h1
    exact h1)
  have hlt4 := T4.out.lt
  have B4 : Hid (Below W.heap.size W w2) := hid (by
    have b1 := (((below_drewN hB.out q).setCell (p := ⟨g, L * 2 + 1, none⟩) (by show W.heap.size ≤ g; omega) (.int .i64 ((e : Int) + 1))).setCell (p := ⟨W.heap.size + 1, u, none⟩) (by simp) (.int .i64 (f : Int))).setCell (p := ⟨W.heap.size + 2, u, none⟩) (by simp) (.int .i64 (f : Int))
    refine (b1.alloc b1.size (.cells #[iv u] 3)).grown hgrow.out ?_ ?_
    · have := b1.size
      simp at this
      simp; omega
    · intro j hj
      have h1 := ((hT.out 0).os.lt j hj).1
      omega)
  clear hown1 hgrow1 hat1 hl1 hgrow
  go_wp2_with (at_builtin; go_must (refine wpList_append_lies _ rfl (.tmp 124) (.tmp 127) 46 rfl (W.heap.size + 3) 48 i48 (.agg #[.int .i64 0, .int .i64 0]) 2 16 Try.underlying46 hi48 hy0 hy1 hy2 rfl (by decide) _ _ _ rfl (hop.out.alloc _) ⟨w2.heap.size, 0, none⟩ 1 1 [iv u, iv 0] rfl rfl (cell_two_new w2 (iv u) (iv 0) 48) (two_iv u 0) (by omega) (by unfold maxLen; omega) (by omega) (by simp; omega) (w2.heap.size + 1) (by simp) ?_))
  intro g2 cap2 w3 hown2 hgrow2 hat2 hl2
  have T5 : Hid (Tm W.heap.size k { s with stack := s.stack ++ [u], path := s.path ++ [u] } (.slice (some ⟨g1, 0, none⟩) (lS + 1) cap1) (.slice (some ⟨g2, 0, none⟩) (L + 1 + 1) cap2) vo w3) := hid (by
    have h1 := T4.out.pushPath (x := u) (g := g2) (cap := cap2) (w1 := w3) (o := .cells #[iv u, iv 0] 48) hpu.out (by
      show w3.ownsRow _ _ _ (.slice _ (s.path.length + 1) _) (s.path.length + 1) _
      rw [← hlp.out]
      exact hown2) hgrow2 (by simpa using hat2)
    have h2 : s.path.length = L + 1 := hlp.out.symm
    simp only [h2] at h1
    exact h1)
  have B5 : Hid (Below W.heap.size W w3) := hid ((B4.out.alloc B4.out.size (.cells #[iv u, iv 0] 48)).grown hgrow2 (by have := B4.out.size; simp; omega) (by
    intro j hj
    have h1 := (hop.out.lt j hj).1
    omega))
  clear hown2 hgrow2 hat2 hl2 B4 hop T4
  go_wp2
  refine hQ.out _ _ _ _ _ _ ?_ T5.out B5.out
  exact ⟨rfl, rfl, rfl, rfl, rfl, rfl, rfl, rfl, rfl, rfl, rfl, rfl, rfl⟩

end Go.Proofs.Qxb6602016a
