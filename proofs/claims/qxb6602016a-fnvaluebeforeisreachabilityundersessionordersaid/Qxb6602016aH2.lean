/-
  THE WALKS of seat b6602016a: the inner loop of stronglyConnected: an edge to a node that has been found.
-/
import Derived.Test.Qxb6602016aG
namespace Go.Proofs.Qxb6602016a
open Go.RowKit Tar
set_option linter.unusedVariables false

set_option maxRecDepth 100000 in
set_option maxHeartbeats 4000000 in
/-- Its component is closed: nothing turns. -/
theorem r_closed (W : World) (b0 o0 : Nat) (k c i comps found : Nat) (vo vs : Value) (g L cP v e d bA oA cA u iu : Nat) (cu : Int) (x : Nat → Value) (wr : World) (Q : Exit → Act → World → Prop)
    (hk : k ≤ 512) (hL : L + 1 ≤ k) (hv : v < k) (hu : u < k) (hed : e < d) (hd : d ≤ 9223372036854775807) (hg : W.heap.size + 3 ≤ g) (hiu : 1 ≤ iu) (hiu2 : iu ≤ 512) (hcu : 0 ≤ cu)
    (t1 : wr.cell? ⟨g, L * 2, none⟩ = some (.int .i64 (v : Int))) (t2 : wr.cell? ⟨g, L * 2 + 1, none⟩ = some (.int .i64 (e : Int))) (t4 : wr.frozen? ⟨g, L * 2 + 1, none⟩ = false)
    (gS : wr.cell? ⟨b0, o0 + v, none⟩ = some (.slice (some ⟨bA, oA, none⟩) d cA)) (gE : wr.cell? ⟨bA, oA + e, none⟩ = some (.int .i64 (u : Int)))
    (hI : wr.cell? ⟨W.heap.size + 1, u, none⟩ = some (.int .i64 (iu : Int))) (hC : wr.cell? ⟨W.heap.size, u, none⟩ = some (.int .i64 cu))
    (hQ : Hid (∀ t' m, Fi W (some ⟨b0, o0, none⟩) k c i comps found vo vs (.slice (some ⟨g, 0, none⟩) (L + 1) cP) t' → Q .normal ⟨t', []⟩ ((wr.drewN m).setCell ⟨g, L * 2 + 1, none⟩ (.int .i64 ((e : Int) + 1))))) :
    Code.wp Try.prog ((loopsOf (Try.f25.body.getD .skip)).getD 2 .skip) Q ⟨lt W (some ⟨b0, o0, none⟩) k c i comps found vo vs (.slice (some ⟨g, 0, none⟩) (L + 1) cP) x, []⟩ wr := by
  conv => arg 2; whnf
  unfold lt lit
  have i1 : (v : Int) < (k : Int) := by omega
  have i2 : (u : Int) < (k : Int) := by omega
  have i3 : (e : Int) < (d : Int) := by omega
  have i4 : ¬ ((iu : Int) = 0) := by omega
  go_wp2
  go_quiet (fail)
  go_wp2
  go_quiet (fail)
  go_wp2
  exact hQ.out _ _ ⟨rfl, rfl, rfl, rfl, rfl, rfl, rfl, rfl, rfl, rfl, rfl, rfl, rfl⟩

end Go.Proofs.Qxb6602016a
