/-
  THE WALKS of seat b6602016a: the inner loop of stronglyConnected: the top of the path is taken off, and another lies below.
-/
import Derived.Test.Qxb6602016aH4
import Derived.Test.Qxb6602016aR
namespace Go.Proofs.Qxb6602016a
open Go.RowKit Tar
set_option linter.unusedVariables false

theorem Drawn.thru {w wz : World} (h : w.drew = wz) (m : Nat) : Drawn w (wz.drewN m) := ⟨1 + m, by rw [← h]; simp⟩

set_option maxRecDepth 100000 in
set_option maxHeartbeats 4000000 in
/-- Another lies below it on the path; it is kept on the stack. -/
theorem r_keep1 (W : World) (b0 o0 : Nat) (k c i comps found : Nat) (vo vs : Value) (g L cP v e d cA lv jv u lu : Nat) (aA : Option Addr) (x : Nat → Value) (wr : World) (Q : Exit → Act → World → Prop)
    (hk : k ≤ 512) (hv : v < k) (hed : ¬ e < d) (hd : d ≤ 9223372036854775807) (hg : W.heap.size + 3 ≤ g) (hcP : L + 2 ≤ cP) (hL : L + 2 ≤ k) (hlu : lu ≤ 512) (hlv : lv ≤ 512) (hu : u < k) (huv : ¬ v = u) (huv2 : ¬ u = v) (hne : ¬ ((lv : Int) = (jv : Int)))
    (t1 : wr.cell? ⟨g, (L + 1) * 2, none⟩ = some (.int .i64 (v : Int))) (t2 : wr.cell? ⟨g, (L + 1) * 2 + 1, none⟩ = some (.int .i64 (e : Int)))
    (gS : wr.cell? ⟨b0, o0 + v, none⟩ = some (.slice aA d cA))
    (hI : wr.cell? ⟨W.heap.size + 1, v, none⟩ = some (.int .i64 (jv : Int))) (hLw : wr.cell? ⟨W.heap.size + 2, v, none⟩ = some (.int .i64 (lv : Int)))
    (tu : wr.cell? ⟨g, L * 2, none⟩ = some (.int .i64 (u : Int))) (hLu : wr.cell? ⟨W.heap.size + 2, u, none⟩ = some (.int .i64 (lu : Int))) (hFu : wr.frozen? ⟨W.heap.size + 2, u, none⟩ = false)
    (hQ : Hid (∀ t' wz m (z : Int), z = (if lv < lu then (lv : Int) else (lu : Int)) → Drawn ((wr.drewN m).setCell ⟨W.heap.size + 2, u, none⟩ (.int .i64 z)) wz → Fi W (some ⟨b0, o0, none⟩) k c i comps found vo vs (.slice (some ⟨g, 0, none⟩) (L + 1) cP) t' → Q .normal ⟨t', []⟩ wz)) :
    Code.wp Try.prog ((loopsOf (Try.f25.body.getD .skip)).getD 2 .skip) Q ⟨lt W (some ⟨b0, o0, none⟩) k c i comps found vo vs (.slice (some ⟨g, 0, none⟩) (L + 1 + 1) cP) x, []⟩ wr := by
  conv => arg 2; whnf
  unfold lt lit
  have i1 : (v : Int) < (k : Int) := by omega
  have i2 : (u : Int) < (k : Int) := by omega
  go_wp2
  go_quiet (fail)
  go_wp2
  refine reg37 k (W.heap.size + 2) u v lu lv _ _ _ hk hu hv huv huv2 hlu hlv ⟨rfl, rfl, rfl, rfl⟩ hLu hLw hFu ?_
  intro t' z hz hsame
  have hF2 : Fc W (some ⟨b0, o0, none⟩) k c i comps found v vo vs (.slice (some ⟨g, 0, none⟩) (L + 1) cP) t' :=
    ⟨hsame.1, hsame.at rfl (by decide), hsame.at rfl (by decide), hsame.at rfl (by decide), hsame.at rfl (by decide), hsame.at rfl (by decide), hsame.at rfl (by decide), hsame.at rfl (by decide), hsame.at rfl (by decide), hsame.at rfl (by decide), hsame.at rfl (by decide), hsame.at rfl (by decide), hsame.at rfl (by decide), hsame.at rfl (by decide)⟩
  clear hsame
  obtain ⟨x2, rfl⟩ := hF2.lit
  clear hF2
  have c1 : ((wr.drewN nq).setCell ⟨W.heap.size + 2, u, none⟩ (.int .i64 z)).drew.cell? ⟨W.heap.size + 2, v, none⟩ = some (.int .i64 (lv : Int)) := by
    rw [World.cell?_drew, World.cell?_setCell_other _ _ _ _ (by simp)]; exact hLw
  have c2 : ((wr.drewN nq).setCell ⟨W.heap.size + 2, u, none⟩ (.int .i64 z)).drew.cell? ⟨W.heap.size + 1, v, none⟩ = some (.int .i64 (jv : Int)) := by
    rw [World.cell?_drew, World.cell?_setCell_other _ _ _ _ (by simp)]; exact hI
  revert c1 c2
  generalize hwz : ((wr.drewN nq).setCell ⟨W.heap.size + 2, u, none⟩ (.int .i64 z)).drew = wz
  intro c1 c2
  have HW := hid hwz
  have HZ := hid hz
  clear hwz hz t1 t2 gS hI hLw tu hLu hFu
  unfold lit2
  go_wp2
  go_quiet (fail)
  go_wp2
  refine hQ.out _ _ _ _ HZ.out (Drawn.thru HW.out _) ?_
  exact ⟨rfl, rfl, rfl, rfl, rfl, rfl, rfl, rfl, rfl, rfl, rfl, rfl, rfl⟩

end Go.Proofs.Qxb6602016a
