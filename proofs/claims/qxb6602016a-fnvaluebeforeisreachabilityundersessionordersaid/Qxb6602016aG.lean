/-
  THE WALKS of seat b6602016a: the inner loop of stronglyConnected: what holds at its head; its end.
-/
import Derived.Test.Qxb6602016aF
namespace Go.Proofs.Qxb6602016a
open Go.RowKit Tar
set_option linter.unusedVariables false

theorem Try.info48 : (Try.prog.info? 48).map (fun i => (i.zero, i.size, i.bytes)) = some (some (.agg #[.int .i64 0, .int .i64 0]), 2, 16) := by kernel_rfl

theorem one_iv (v : Nat) : ∀ u ∈ [iv v], u.oneCell' = true := by intro u hu; simp at hu; subst hu; rfl
theorem two_iv (v k : Nat) : ∀ u ∈ [iv v, iv k], u.oneCell' = true := by intro u hu; simp at hu; rcases hu with rfl | rfl <;> rfl

/-- The memory and the state at the head of the inner loop. -/
structure Mem (W : World) (G : Gr) (i : Nat) (s : St) (aS : Option Addr) (lS cS : Nat) (aP : Option Addr) (lP cP : Nat) (aO : Option Addr) (lO cO : Nat) (wr : World) : Prop where
  tm : Tm W.heap.size G.n s (.slice aS lS cS) (.slice aP lP cP) (.slice aO lO cO) wr
  inv : Inv G s
  ls : lS = s.stack.length
  lp : lP = s.path.length
  lo : lO = s.order.length
  fd : ∀ x, x < i + 1 → s.idx x ≠ 0
  bel : Below W.heap.size W wr

/-- The frame at the head of the inner loop. -/
def Fi (W : World) (a : Option Addr) (k c i comps found : Nat) (vo vs vp : Value) (t : Array Value) : Prop :=
  Fr t (.slice a k c) (.slice (some ⟨W.heap.size, 0, none⟩) k k) (.int .i64 (comps : Int)) vo (.int .i64 (k : Int)) (.slice (some ⟨W.heap.size + 1, 0, none⟩) k k) (.slice (some ⟨W.heap.size + 2, 0, none⟩) k k) vs vp (.int .i64 (found : Int)) (.int .i64 (k : Int)) (.int .i64 (i : Int))

/-- What holds at the head of the inner loop, 'gk' turns at most being left. -/
def At (W : World) (a : Option Addr) (c : Nat) (G : Gr) (i gk : Nat) (t : Array Value) (wr : World) : Prop :=
  ∃ (s : St) (aS : Option Addr) (lS cS : Nat) (aP : Option Addr) (lP cP : Nat) (aO : Option Addr) (lO cO : Nat),
    Fi W a G.n c i s.comps s.found (.slice aO lO cO) (.slice aS lS cS) (.slice aP lP cP) t ∧ Mem W G i s aS lS cS aP lP cP aO lO cO wr ∧ rest G s ≤ gk

set_option maxRecDepth 100000 in
set_option maxHeartbeats 2000000 in
/-- The path is empty: the loop is left. -/
theorem r_done (W : World) (a : Option Addr) (k c i comps found : Nat) (aS : Option Addr) (lS cS : Nat) (aP : Option Addr) (cP : Nat) (aO : Option Addr) (lO cO : Nat) (x : Nat → Value) (wr : World) (Q : Exit → Act → World → Prop)
    (hQ : Hid (∀ t', Fi W a k c i comps found (.slice aO lO cO) (.slice aS lS cS) (.slice aP 0 cP) t' → Q (.exit 4) ⟨t', []⟩ wr)) :
    Code.wp Try.prog ((loopsOf (Try.f25.body.getD .skip)).getD 2 .skip) Q
      ⟨lit (.slice a k c) (.slice (some ⟨W.heap.size, 0, none⟩) k k) (.int .i64 (comps : Int)) (.slice aO lO cO) (.int .i64 (k : Int)) (.slice (some ⟨W.heap.size + 1, 0, none⟩) k k) (.slice (some ⟨W.heap.size + 2, 0, none⟩) k k) (.slice aS lS cS) (.slice aP 0 cP) (.int .i64 (found : Int)) (.int .i64 (k : Int)) (.int .i64 (i : Int)) x, []⟩ wr := by
  conv => arg 2; whnf
  unfold lit
  go_wp2
  exact hQ.out _ ⟨rfl, rfl, rfl, rfl, rfl, rfl, rfl, rfl, rfl, rfl, rfl, rfl, rfl⟩

/-- The frame at the head of the inner loop, written out. -/
def lt (W : World) (a : Option Addr) (k c i comps found : Nat) (vo vs vp : Value) (x : Nat → Value) : Array Value :=
  lit (.slice a k c) (.slice (some ⟨W.heap.size, 0, none⟩) k k) (.int .i64 (comps : Int)) vo (.int .i64 (k : Int)) (.slice (some ⟨W.heap.size + 1, 0, none⟩) k k) (.slice (some ⟨W.heap.size + 2, 0, none⟩) k k) vs vp (.int .i64 (found : Int)) (.int .i64 (k : Int)) (.int .i64 (i : Int)) x
end Go.Proofs.Qxb6602016a
