/-
  THE WALKS of seat b6602746a, first part: the record, and 'take'.
-/
import Derived.Test.Qxb6602746aProg
import Derived.WalkKit
import Derived.WalkSpells
import Derived.WalkLawsBesides
import Derived.RegionTactic
import Derived.ChangeAlike
import Derived.Deep.QuietTactic
import Derived.BigQuiet
import Derived.Deep.OwnRows
import Derived.Lib.SliceRun
import Derived.Laws.Tables
namespace Go.Proofs.Qxb6602746a
open Go.RowKit
set_option linter.unusedVariables false

theorem hid {p : Prop} (h : p) : Hid p := h
theorem Try.size43 : (Try.prog.info? 43).map (·.size) = some 3 := by kernel_rfl

/-- The record at block g reads (i, l, r). -/
def Rec (w : World) (g : Nat) (i l r : Int) : Prop := w.heap[g]? = some (.cells #[.int .u64 i, .int .u64 l, .int .u64 r] 43 (0, 0))

/-- At most block g has turned. -/
structure Only (g : Nat) (w w' : World) : Prop where
  os : w'.os = w.os
  tape : w'.tape = w.tape
  output : w'.output = w.output
  size : w'.heap.size = w.heap.size
  block : ∀ k, k ≠ g → w'.heap[k]? = w.heap[k]?

theorem Only.refl (g : Nat) (w : World) : Only g w w := ⟨rfl, rfl, rfl, rfl, fun _ _ => rfl⟩
theorem Only.trans {g : Nat} {a b c : World} (h : Only g a b) (k : Only g b c) : Only g a c :=
  ⟨k.os.trans h.os, k.tape.trans h.tape, k.output.trans h.output, k.size.trans h.size, fun x hx => (k.block x hx).trans (h.block x hx)⟩
theorem Only.setCell {g : Nat} {w w' : World} (h : Only g w w') (o : Nat) (u : Value) : Only g w (w'.setCell ⟨g, o, none⟩ u) :=
  ⟨h.os, h.tape, h.output, by simpa [World.setCell] using h.size, fun k hk => by rw [Below.heap_setCell _ _ _ _ (by simpa using hk)]; exact h.block k hk⟩
theorem Only.drew {g : Nat} {w w' : World} (h : Only g w w') : Only g w w'.drew := ⟨h.os, h.tape, h.output, h.size, h.block⟩
theorem Only.setRow {g : Nat} {w w' : World} (h : Only g w w') (cs : Array Value) : Only g w (w'.setRow g cs) :=
  ⟨h.os, h.tape, h.output, by simpa [World.setRow] using h.size, fun k hk => by rw [setRow_other _ _ _ _ hk]; exact h.block k hk⟩
theorem Only.below {g B : Nat} {w w' : World} (h : Only g w w') (hB : B ≤ g) : Below B w w' :=
  ⟨h.os, h.tape, h.output, by rw [h.size]; exact Nat.le_refl _, fun k hk => h.block k (by omega)⟩

theorem Rec.c0 {w : World} {g : Nat} {i l r : Int} (h : Rec w g i l r) : w.cell? ⟨g, 0, none⟩ = some (.int .u64 i) := by
  unfold Rec at h; simp [World.cell?, h]
theorem Rec.c1 {w : World} {g : Nat} {i l r : Int} (h : Rec w g i l r) : w.cell? ⟨g, 1, none⟩ = some (.int .u64 l) := by
  unfold Rec at h; simp [World.cell?, h]
theorem Rec.c2 {w : World} {g : Nat} {i l r : Int} (h : Rec w g i l r) : w.cell? ⟨g, 2, none⟩ = some (.int .u64 r) := by
  unfold Rec at h; simp [World.cell?, h]
theorem Rec.free {w : World} {g : Nat} {i l r : Int} (h : Rec w g i l r) (o : Nat) : w.frozen? ⟨g, o, none⟩ = false := by
  unfold Rec at h; simp [World.frozen?, h]
theorem Rec.set0 {w : World} {g : Nat} {i l r : Int} (h : Rec w g i l r) (x : Int) : Rec (w.setCell ⟨g, 0, none⟩ (.int .u64 x)) g x l r := by
  unfold Rec at *
  simp [World.setCell, Array.getElem?_modify, h]
theorem Rec.set1 {w : World} {g : Nat} {i l r : Int} (h : Rec w g i l r) (x : Int) : Rec (w.setCell ⟨g, 1, none⟩ (.int .u64 x)) g i x r := by
  unfold Rec at *
  simp [World.setCell, Array.getElem?_modify, h]
theorem Rec.set2 {w : World} {g : Nat} {i l r : Int} (h : Rec w g i l r) (x : Int) : Rec (w.setCell ⟨g, 2, none⟩ (.int .u64 x)) g i l x := by
  unfold Rec at *
  simp [World.setCell, Array.getElem?_modify, h]
theorem Rec.other {w w' : World} {g k : Nat} {i l r : Int} (h : Rec w g i l r) (o : Only k w w') (hk : g ≠ k) : Rec w' g i l r := by
  unfold Rec at *; rw [o.block g hk]; exact h

/-- The number behind l, as the machine counts. -/
def nx (l : Int) : Int := IntKind.u64.wrap (l + 1)
/-- What 'take' leaves. -/
def tk (i l r a s : Int) : Int × Int × Int :=
  if a < i then (i, l, r) else if a = i ∧ s = nx l then (i, s, nx r) else if i < a ∨ l < s then (a, s, 1) else (i, l, r)

def Took (g : Nat) (w : World) (x : Int × Int × Int) (e : Ending) (w' : World) : Prop := e = .returned (.tuple #[]) ∧ Rec w' g x.1 x.2.1 x.2.2 ∧ Only g w w'

set_option maxHeartbeats 1000000 in
theorem take_any (g : Nat) (i l r a s : Int) (w : World) (h : Hid (Rec w g i l r)) :
    Calls Try.prog 20 #[.pointer (some ⟨g, 0, none⟩), .int .u64 a, .int .u64 s] w (Took g w (tk i l r a s)) := by
  have h0 := h.out.c0
  have h1 := h.out.c1
  have h2 := h.out.c2
  have f0 := h.out.free 0
  have f1 := h.out.free 1
  have f2 := h.out.free 2
  by_cases c1 : a < i
  · have e : tk i l r a s = (i, l, r) := if_pos c1
    rw [e]; clear e
    go_enter Try.func20, Try.ntmps20
    go_wp2
    go_end0
    exact ⟨rfl, h.out, Only.refl _ _⟩
  · by_cases c2 : a = i ∧ s = nx l
    · have e : tk i l r a s = (i, s, nx r) := by unfold tk; rw [if_neg c1, if_pos c2]
      rw [e]; clear e
      obtain ⟨c2, c3⟩ := c2
      unfold nx at c3
      subst c2
      go_enter Try.func20, Try.ntmps20
      go_wp2
      go_end0
      exact ⟨rfl, (h.out.set1 _).set2 _, ((Only.refl _ _).setCell 1 _).setCell 2 _⟩
    · by_cases c3 : i < a
      · have e : tk i l r a s = (a, s, 1) := by unfold tk; rw [if_neg c1, if_neg c2, if_pos (Or.inl c3)]
        rw [e]; clear e
        have c4 : ¬ a = i := by omega
        clear c2
        go_enter Try.func20, Try.ntmps20
        go_wp2
        go_end0
        exact ⟨rfl, ((h.out.set0 _).set1 _).set2 _, (((Only.refl _ _).setCell 0 _).setCell 1 _).setCell 2 _⟩
      · have c4 : a = i := by omega
        subst c4
        have c5 : ¬ s = nx l := fun e => c2 ⟨rfl, e⟩
        have c6 : ¬ s = IntKind.u64.wrap (l + 1) := c5
        by_cases c7 : l < s
        · have e : tk a l r a s = (a, s, 1) := by unfold tk; rw [if_neg c1, if_neg c2, if_pos (Or.inr c7)]
          rw [e]; clear e
          clear c2 c5
          go_enter Try.func20, Try.ntmps20
          go_wp2
          go_end0
          exact ⟨rfl, ((h.out.set0 _).set1 _).set2 _, (((Only.refl _ _).setCell 0 _).setCell 1 _).setCell 2 _⟩
        · have e : tk a l r a s = (a, l, r) := by unfold tk; rw [if_neg c1, if_neg c2, if_neg (fun o => o.elim c3 c7)]
          rw [e]; clear e
          clear c2 c5
          go_enter Try.func20, Try.ntmps20
          go_wp2
          go_end0
          exact ⟨rfl, h.out, Only.refl _ _⟩

set_option maxHeartbeats 1000000 in
theorem zzTake_any (g : Nat) (i l r a s : Int) (w : World) (h : Hid (Rec w g i l r)) :
    Calls Try.prog 16 #[.pointer (some ⟨g, 0, none⟩), .int .u64 a, .int .u64 s] w (Took g w (tk i l r a s)) := by
  go_enter Try.func16, Try.ntmps16
  go_wp2_with fail
  refine (take_any g i l r a s w h).mono ?_
  rintro _ w1 ⟨rfl, h1, h2⟩
  simp only []
  go_wp2
  go_end0
  exact ⟨rfl, h1, h2⟩

/-- A record made anew. -/
def Born (w : World) (i l r : Int) (e : Ending) (w' : World) : Prop := e = .returned (.pointer (some ⟨w.heap.size, 0, none⟩)) ∧ Rec w' w.heap.size i l r ∧ w'.heap.size = w.heap.size + 1 ∧ Below w.heap.size w w'

set_option maxHeartbeats 1000000 in
theorem make_any (i l r : Int) (w : World) : Calls Try.prog 15 #[.int .u64 i, .int .u64 l, .int .u64 r] w (Born w i l r) := by
  go_enter Try.func15, Try.ntmps15
  go_wp2
  go_ret
  refine ⟨rfl, ?_, ?_, ?_⟩
  · exact heap_alloc_new w _
  · simp
  · exact (Below.refl _ w).alloc (Nat.le_refl _) _

set_option maxHeartbeats 1000000 in
theorem state_any (g : Nat) (i l r : Int) (w : World) (h : Hid (Rec w g i l r)) :
    Calls Try.prog 17 #[.pointer (some ⟨g, 0, none⟩)] w fun e w' => e = .returned (.tuple #[.int .u64 i, .int .u64 l, .int .u64 r]) ∧ ∃ n, w' = w.drewN n := by
  have h0 := h.out.c0
  have h1 := h.out.c1
  have h2 := h.out.c2
  go_enter Try.func17, Try.ntmps17
  go_wp2
  go_quiet (fail)
  go_wp2
  go_ret3
  exact ⟨rfl, _, rfl⟩

end Go.Proofs.Qxb6602746a
