/-
  THE WALKS of seat b6602016a: the inner loop of stronglyConnected: the top of the path is taken off.
-/
import Derived.Test.Qxb6602016aF2
namespace Go.Proofs.Qxb6602016a
open Go.RowKit Tar
set_option linter.unusedVariables false

/-- The world has drawn. -/
def Drawn (w wz : World) : Prop := ∃ m, wz = w.drewN m
theorem Drawn.one (w : World) (m : Nat) : Drawn w (w.drewN m) := ⟨m, rfl⟩
theorem Drawn.via {w wz : World} (h : w = wz) (m : Nat) : Drawn w (wz.drewN m) := ⟨m, by rw [h]⟩
theorem Drawn.two (w : World) (m m' : Nat) : Drawn w ((w.drewN m).drewN m') := ⟨m + m', by simp⟩

set_option maxRecDepth 100000 in
set_option maxHeartbeats 4000000 in
/-- It was the last of the path, and it is kept on the stack. -/
theorem r_keep0 (W : World) (b0 o0 : Nat) (k c i comps found : Nat) (vo vs : Value) (g cP v e d cA lv jv : Nat) (aA : Option Addr) (x : Nat → Value) (wr : World) (Q : Exit → Act → World → Prop)
    (hk : k ≤ 512) (hv : v < k) (hed : ¬ e < d) (hd : d ≤ 9223372036854775807) (hg : W.heap.size + 3 ≤ g) (hcP : 1 ≤ cP) (hne : ¬ ((lv : Int) = (jv : Int)))
    (t1 : wr.cell? ⟨g, 0, none⟩ = some (.int .i64 (v : Int))) (t2 : wr.cell? ⟨g, 1, none⟩ = some (.int .i64 (e : Int)))
    (gS : wr.cell? ⟨b0, o0 + v, none⟩ = some (.slice aA d cA))
    (hI : wr.cell? ⟨W.heap.size + 1, v, none⟩ = some (.int .i64 (jv : Int))) (hLw : wr.cell? ⟨W.heap.size + 2, v, none⟩ = some (.int .i64 (lv : Int)))
    (hQ : Hid (∀ t' wz, Drawn wr wz → Fi W (some ⟨b0, o0, none⟩) k c i comps found vo vs (.slice (some ⟨g, 0, none⟩) 0 cP) t' → Q .normal ⟨t', []⟩ wz)) :
    Code.wp Try.prog ((loopsOf (Try.f25.body.getD .skip)).getD 2 .skip) Q ⟨lt W (some ⟨b0, o0, none⟩) k c i comps found vo vs (.slice (some ⟨g, 0, none⟩) (0 + 1) cP) x, []⟩ wr := by
  conv => arg 2; whnf
  unfold lt lit
  have i1 : (v : Int) < (k : Int) := by omega
  go_wp2
  go_quiet (fail)
  go_wp2
  go_quiet (fail)
  go_wp2
  refine hQ.out _ _ (by first | exact Drawn.two _ _ _ | exact Drawn.one _ _) ?_
  exact ⟨rfl, rfl, rfl, rfl, rfl, rfl, rfl, rfl, rfl, rfl, rfl, rfl, rfl⟩

set_option maxRecDepth 100000 in
set_option maxHeartbeats 4000000 in
/-- It was the last of the path, and its component is closed: up to the closing loop. -/
theorem r_close0 (W : World) (b0 o0 : Nat) (k c i comps found : Nat) (vo vs : Value) (g cP v e d cA lv : Nat) (aA : Option Addr) (x : Nat → Value) (wr : World) (Q : Exit → Act → World → Prop)
    (hk : k ≤ 512) (hv : v < k) (hed : ¬ e < d) (hd : d ≤ 9223372036854775807) (hg : W.heap.size + 3 ≤ g) (hcP : 1 ≤ cP) (hcs : comps ≤ 512)
    (t1 : wr.cell? ⟨g, 0, none⟩ = some (.int .i64 (v : Int))) (t2 : wr.cell? ⟨g, 1, none⟩ = some (.int .i64 (e : Int)))
    (gS : wr.cell? ⟨b0, o0 + v, none⟩ = some (.slice aA d cA))
    (hI : wr.cell? ⟨W.heap.size + 1, v, none⟩ = some (.int .i64 (lv : Int))) (hLw : wr.cell? ⟨W.heap.size + 2, v, none⟩ = some (.int .i64 (lv : Int)))
    (hQ : Hid (∀ t' wz (Q2 : Exit → Act → World → Prop), Drawn wr wz → Fc W (some ⟨b0, o0, none⟩) k c i comps found v vo vs (.slice (some ⟨g, 0, none⟩) 0 cP) t' →
      (∀ t2 w2 vo' vs' vp', Fc W (some ⟨b0, o0, none⟩) k c i comps found v vo' vs' vp' t2 → (∀ t3, Fi W (some ⟨b0, o0, none⟩) k c i (comps + 1) found vo' vs' vp' t3 → Q .normal ⟨t3, []⟩ w2) → Q2 (.exit 6) ⟨t2, []⟩ w2) →
      Code.wp Try.prog (.loop ((loopsOf (Try.f25.body.getD .skip)).getD 3 .skip)) Q2 ⟨t', []⟩ wz)) :
    Code.wp Try.prog ((loopsOf (Try.f25.body.getD .skip)).getD 2 .skip) Q ⟨lt W (some ⟨b0, o0, none⟩) k c i comps found vo vs (.slice (some ⟨g, 0, none⟩) (0 + 1) cP) x, []⟩ wr := by
  conv => arg 2; whnf
  unfold lt lit
  have i1 : (v : Int) < (k : Int) := by omega
  go_wp2
  go_quiet (fail)
  go_wp2
  go_quiet (fail)
  go_wp2
  refine hQ.out _ _ _ ?_ ?_ ?_
  · first | exact Drawn.two _ _ _ | exact Drawn.one _ _
  · exact ⟨rfl, rfl, rfl, rfl, rfl, rfl, rfl, rfl, rfl, rfl, rfl, rfl, rfl, rfl⟩
  intro t2 w2 vo' vs' vp' hF2 hN
  obtain ⟨x2, rfl⟩ := hF2.lit
  unfold lit2
  have HN := hid hN
  clear hN hF2
  go_wp2
  refine HN.out _ ?_
  exact ⟨rfl, rfl, rfl, by simp, rfl, rfl, rfl, rfl, rfl, rfl, rfl, rfl, rfl⟩

end Go.Proofs.Qxb6602016a
