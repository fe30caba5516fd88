/-
  THE WALKS of seat b6602016a: the inner loop of stronglyConnected: an edge to a node that has been found.
-/
import Derived.Test.Qxb6602016aG
namespace Go.Proofs.Qxb6602016a
open Go.RowKit Tar
set_option linter.unusedVariables false

set_option maxRecDepth 100000 in
set_option maxHeartbeats 4000000 in
/-- It lies on the stack: low is brought down. -/
theorem r_low (W : World) (b0 o0 : Nat) (k c i comps found : Nat) (vo vs : Value) (g L cP v e d bA oA cA u iu lv : Nat) (cu : Int) (x : Nat → Value) (wr : World) (Q : Exit → Act → World → Prop)
    (hk : k ≤ 512) (hL : L + 1 ≤ k) (hv : v < k) (hu : u < k) (hed : e < d) (hd : d ≤ 9223372036854775807) (hg : W.heap.size + 3 ≤ g) (hiu : 1 ≤ iu) (hiu2 : iu ≤ 512) (hlv : lv ≤ 512) (hcu : cu < 0)
    (t1 : wr.cell? ⟨g, L * 2, none⟩ = some (.int .i64 (v : Int))) (t2 : wr.cell? ⟨g, L * 2 + 1, none⟩ = some (.int .i64 (e : Int))) (t4 : wr.frozen? ⟨g, L * 2 + 1, none⟩ = false)
    (gS : wr.cell? ⟨b0, o0 + v, none⟩ = some (.slice (some ⟨bA, oA, none⟩) d cA)) (gE : wr.cell? ⟨bA, oA + e, none⟩ = some (.int .i64 (u : Int)))
    (hI : wr.cell? ⟨W.heap.size + 1, u, none⟩ = some (.int .i64 (iu : Int))) (hC : wr.cell? ⟨W.heap.size, u, none⟩ = some (.int .i64 cu))
    (hLw : wr.cell? ⟨W.heap.size + 2, v, none⟩ = some (.int .i64 (lv : Int))) (hF : wr.frozen? ⟨W.heap.size + 2, v, none⟩ = false)
    (hQ : Hid (∀ t' m (z : Int), z = (if iu < lv then (iu : Int) else (lv : Int)) → Fi W (some ⟨b0, o0, none⟩) k c i comps found vo vs (.slice (some ⟨g, 0, none⟩) (L + 1) cP) t' → Q .normal ⟨t', []⟩ (((wr.drewN m).setCell ⟨g, L * 2 + 1, none⟩ (.int .i64 ((e : Int) + 1))).setCell ⟨W.heap.size + 2, v, none⟩ (.int .i64 z)).drew)) :
    Code.wp Try.prog ((loopsOf (Try.f25.body.getD .skip)).getD 2 .skip) Q ⟨lt W (some ⟨b0, o0, none⟩) k c i comps found vo vs (.slice (some ⟨g, 0, none⟩) (L + 1) cP) x, []⟩ wr := by
  refine Code.wp_mono (Q := fun e a w => match e with | .normal => Q .normal a w | _ => False) (fun e a w h => by cases e <;> first | exact h | exact h.elim) ?_
  conv => arg 2; whnf
  unfold lt lit
  have i1 : (v : Int) < (k : Int) := by omega
  have i2 : (u : Int) < (k : Int) := by omega
  have i3 : (e : Int) < (d : Int) := by omega
  have i4 : ¬ ((iu : Int) = 0) := by omega
  go_wp2
  go_quiet (fail)
  go_wp2
  go_quiet (fail)
  go_wp2
  go_region
  go_wp2
  all_goals
    refine hQ.out _ _ _ (by split <;> omega) ?_
    exact ⟨rfl, rfl, rfl, rfl, rfl, rfl, rfl, rfl, rfl, rfl, rfl, rfl, rfl⟩

end Go.Proofs.Qxb6602016a
