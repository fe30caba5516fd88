/-
  Seat b6602016a: what the readings of the arguments give the walks: slices of ints, a slice of slices of ints.
-/
import Derived.Test.Qxb6602016aRows
import Derived.Test.Qxb6602016aW1
import Derived.ProofKit
import Derived.OpenShut
import Derived.ChangeOld
import Derived.Deep.Matrix
namespace Go.Proofs.Qxb6602016a
open Go.ChangeShapes Go.WideShapes Go.ChangeAt Go.RowKit
set_option linter.unusedVariables false

theorem own : ownKnob Try.prog.godebug = none := by kernel_rfl
theorem laidOut : laidOutB Try.prog = true := by kernel_rfl

/-- A slice of ints that came in. -/
theorem row_ints {H : Type} {enc : TypeId × Value → H} {W : World} {a : Option Addr} {len cap : Nat} {d : DataW H} {p : List MemPlace} {t e : TypeId} {k : IntKind} (ht : Try.prog.underlying t = some (.slice e)) (he : Try.prog.underlying e = some (.int k)) (hc : Try.prog.cellsOf e = 1)
    (h : DataW.Trod enc Try.prog W 0 (fun _ => true) true t (.slice a len cap) d p) :
    len ≤ 9223372036854775807 ∧ ∃ S : Nat → Int, Row W a len (fun i => .int k (S i)) := by
  obtain ⟨fuel, hf⟩ := h
  rcases open_ints ht he hc hf with ⟨hcs, _⟩ | ⟨x, l, c, zs, hcs, _, hl, hm, hz, _, hcell, hwz⟩
  · simp [Value.cells] at hcs
    obtain ⟨rfl, rfl, rfl⟩ := hcs
    exact ⟨by omega, fun _ => 0, fun h => by omega⟩
  · simp [Value.cells] at hcs
    obtain ⟨rfl, rfl, rfl⟩ := hcs
    simp only [if_true] at hz
    refine ⟨by unfold maxLen at hm; omega, fun i => zs.getD i 0, fun h0 => ?_⟩
    obtain ⟨b, o, sp⟩ := x
    have hsp : sp = none := by simpa [Addr.add] using World.cell?_spot (hcell 0 (by omega))
    subst hsp
    exact ⟨b, o, rfl, fun i hi => by rw [← add_plain]; exact hcell i (by omega)⟩

/-- A slice of slices of ints that came in. -/
theorem succ_rows {H : Type} {enc : TypeId × Value → H} {W : World} {a : Option Addr} {len cap : Nat} {d : DataW H} {p : List MemPlace} (h : DataW.Trod enc Try.prog W 0 (fun _ => true) true 22 (.slice a len cap) d p) :
    len ≤ 9223372036854775807 ∧ ∃ (deg : Nat → Nat) (A : Nat → Option Addr) (C : Nat → Nat) (Z : Nat → Nat → Int), Succ W a len deg A C Z := by
  obtain ⟨fuel, hf⟩ := h
  rcases Deep.open_int_rows Try.underlying22 Try.underlying25 Try.underlying3 (by kernel_rfl) (by kernel_rfl) hf with ⟨hcs, _⟩ | ⟨x, l, c, A, L, C, Z, hcs, _, hl, hm, _, hrow⟩
  · simp [Value.cells] at hcs
    obtain ⟨rfl, rfl, rfl⟩ := hcs
    exact ⟨by omega, fun _ => 0, fun _ => none, fun _ => 0, fun _ _ => 0, fun h => by omega, fun i hi => by omega, fun i hi => by omega⟩
  · simp [Value.cells] at hcs
    obtain ⟨rfl, rfl, rfl⟩ := hcs
    refine ⟨by unfold maxLen at hm; omega, L, A, C, fun i k => (Z i).getD k 0, fun h0 => ?_, fun i hi h0 => ?_, fun i hi => ?_⟩
    · obtain ⟨b, o, sp⟩ := x
      have hsp : sp = none := by simpa [Addr.add] using World.cell?_spot (hrow 0 (by omega)).1
      subst hsp
      exact ⟨b, o, rfl, fun i hi => by rw [← add_plain]; exact (hrow i (by omega)).1⟩
    · obtain ⟨_, h1, h2, _, _, h3, h4⟩ := hrow i (by omega)
      cases hA : A i with
      | none => have := h3 hA; omega
      | some x' =>
        obtain ⟨_, h5⟩ := h4 x' hA
        obtain ⟨b, o, sp⟩ := x'
        have hsp : sp = none := by simpa [Addr.add] using World.cell?_spot (h5 0 (by omega))
        subst hsp
        exact ⟨b, o, rfl, fun k hk => by rw [← add_plain]; exact h5 k (by omega)⟩
    · obtain ⟨_, h1, h2, _⟩ := hrow i (by omega)
      unfold maxLen at h2
      omega

end Go.Proofs.Qxb6602016a
