/-
  THE LIBRARY's SORT AT THIS PROGRAM (seat b6601034a): the shelf's contract of slices.Sort at []string, laid by the guide's own command; and the sort of a nil slice, walked.
-/
import Derived.Test.Qxb6601034aProg
import Derived.Shelf.Sort.Plain
import Derived.Shelf.Lay
import Derived.Sort.EveryDepth
import Derived.WalkKit
import Derived.WalkSpells
import Derived.WalkLawsBesides
import Derived.Handy
namespace Go.Proofs
open Go.Shelf
shelf_lay Lays.n190 Nm 190 at Try as Try.lays190
end Go.Proofs

namespace Go.Proofs.Qxb6601034a
open Go.RowKit Go.Sort

theorem sort_any (blk off cap : Nat) (ss : List (List UInt8)) (w : World) (hH : Holds encStr w blk off ss.toArray) (hblk : blk < w.heap.size) (hsz : ss.length < 4611686018427387904) :
    Calls Try.prog 19 #[.slice (some ⟨blk, off, none⟩) ss.length cap] w fun e w' =>
      e = .returned (.tuple #[]) ∧ ∃ n os, w' = grow (putRow encStr (Sort.ahead w n) blk off (ss.mergeSort fun x y => decide (x ≤ y)).toArray) os :=
  Any.slices_Sort_string Try.lays190 blk off cap ss w hH hblk hsz

set_option maxHeartbeats 400000 in
theorem sort_nil (w : World) : Calls Try.prog 19 #[.slice none 0 0] w fun e w' => e = .returned (.tuple #[]) ∧ w' = w := by
  go_enter Try.func19, Try.ntmps19
  go_wp2
  refine wp_loop_rounds 1 ?_
  rw [rounds_succ]
  go_wp2
  refine wp_loop_rounds 1 ?_
  rw [rounds_succ]
  go_wp2
  go_returns
  simp only []
  go_wp2
  exact ⟨trivial, trivial⟩
#print axioms sort_any
end Go.Proofs.Qxb6601034a
