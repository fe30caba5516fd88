/-
  THE WALKS of seat b6601034a, second part: the map of the flags' origins is made.
-/
import Derived.Test.Qxb6601034aW1
import Derived.Maps.RangeWalk
import Derived.Maps.OwnOps
namespace Go.Proofs.Qxb6601034a
open Go.RowKit Plain Go.Maps
set_option linter.unusedVariables false

/-- How an origin reads: its source, its variable's bytes. -/
def oElem : Value → Option (DataW Unit × List MemPlace)
  | .agg vs => match vs.toList with
    | [.int .i64 a, .string s] => some (.agg [.lit (.int .i64 a), .lit (.string s.data.toList)], [])
    | _ => none
  | _ => none

/-- An origin's value. -/
def oVal (c : Int × ByteArray) : Value := .agg #[.int .i64 c.1, .string c.2]
def oDat (c : Int × ByteArray) : DataW Unit := .agg [.lit (.int .i64 c.1), .lit (.string c.2.data.toList)]

theorem oElem_mk (c : Int × ByteArray) : oElem (oVal c) = some (oDat c, []) := rfl

theorem oElem_inv {v : Value} {y : DataW Unit × List MemPlace} (h : oElem v = some y) : ∃ c, v = oVal c ∧ y = (oDat c, []) := by
  unfold oElem at h
  split at h
  · rename_i vs
    split at h
    · rename_i a s e
      cases h
      refine ⟨(a, s), ?_, rfl⟩
      unfold oVal
      congr 1
      apply Array.toList_inj.1
      exact e
    · cases h
  · cases h

theorem byteArray_ext {a b : ByteArray} (h : a.data.toList = b.data.toList) : a = b := by
  cases a; cases b
  congr 1
  exact Array.toList_inj.1 h

theorem oDat_inj {c c' : Int × ByteArray} (h : oDat c = oDat c') : c = c' := by
  unfold oDat at h
  injection h with h
  injection h with h1 h2
  injection h2 with h2 _
  injection h1 with h1
  injection h2 with h2
  injection h1 with _ h1
  injection h2 with h2
  exact Prod.ext h1 (byteArray_ext h2)

theorem law9 : Keyed Try.prog 9 := string_keyed Try.underlying9

/-- The keys' bytes. -/
def kb (K : Nat → ByteArray) (i : Nat) : List UInt8 := (K i).data.toList

/-- What the map holds after k writes: at each key its last one. -/
def Tells (K : Nat → ByteArray) (S : Nat → Int) (V : Nat → ByteArray) (k : Nat) (D : DataW Unit) : Prop :=
  IsMap D ∧ ∀ x z, D.atKey (.string x) z = match lastOf (kb K) k x with | some i => oDat (S i, V i) | none => z

theorem Tells.start (K : Nat → ByteArray) (S : Nat → Int) (V : Nat → ByteArray) : Tells K S V 0 (.map []) := ⟨isMap_empty, fun x z => rfl⟩

theorem Tells.step {K : Nat → ByteArray} {S : Nat → Int} {V : Nat → ByteArray} {k : Nat} {D : DataW Unit} (h : Tells K S V k D) : Tells K S V (k + 1) (D.put (.string (kb K k)) (oDat (S k, V k))) := by
  refine ⟨h.1.put _ _, fun x z => ?_⟩
  unfold lastOf
  by_cases e : kb K k = x
  · subst e
    rw [atKey_put_same h.1 (show WideAt.IsKeyLit (.string (kb K k)) from trivial)]
    simp
  · rw [atKey_put_other (by intro e2; injection e2 with e2; exact e e2.symm), h.2, if_neg (by simpa using e)]

theorem ownsMap_block {w w' : World} {b n : Nat} {D : DataW Unit} (h : w.ownsMap Try.prog 9 oElem b n D) (e : w'.heap[b]? = w.heap[b]?) : w'.ownsMap Try.prog 9 oElem b n D := by
  obtain ⟨es, clock, hb, r⟩ := h
  exact ⟨es, clock, e.trans hb, r⟩

set_option maxHeartbeats 1000000 in
theorem newOrigins_any (a b c : Option Addr) (n n' m' l' : Nat) (K V : Nat → ByteArray) (S : Nat → Int) (w : World) (hn : n ≤ 4096)
    (hK : Hid (Row w a n (fun i => .string (K i)))) (hS : Hid (Row w b n (fun i => .int .i64 (S i)))) (hV : Hid (Row w c n (fun i => .string (V i)))) (hlen : Hid (∀ i, i < n → (K i).size ≤ maxLen)) :
    Calls Try.prog 11 #[.slice a n n', .slice b n m', .slice c n l'] w fun e w' => e = .returned (.agg #[.string ByteArray.empty, .map (some (w.heap.size + 1)), .slice none 0 0]) ∧
      (∃ D, w'.ownsMap Try.prog 9 oElem (w.heap.size + 1) n D ∧ Tells K S V n D) ∧ Below w.heap.size w w' := by
  have hmm : ∀ (w : World) (z : Int), (Instr.makeMap 28 (some (.int .i64 z))).run Try.prog w = .ok (.map (some w.heap.size)) (w.alloc (.map #[] 0)) := by
    intro w z
    simp [Instr.makeMap, run_underlying Try.underlying28, asInt]
    rfl
  go_enter Try.func11, Try.ntmps11
  go_wp2
  go_loopw [9] (fun i wr => ∃ k : Nat, k ≤ n ∧ i = .int .i64 k ∧ (∃ D, wr.ownsMap Try.prog 9 oElem (w.heap.size + 1) k D ∧ Tells K S V k D) ∧
      Below (w.heap.size + 1) (w.alloc (.cells #[.string ⟨#[]⟩, .map none, .slice none 0 0] 30)) wr) (fun i _ => n - (intOf i).toNat)
  case atStart =>
    refine ⟨0, Nat.zero_le _, rfl, ⟨_, ?_, Tells.start K S V⟩, (Below.refl _ _).alloc (by simp) _⟩
    have := World.ownsMap_made (w.alloc (.cells #[.string ⟨#[]⟩, .map none, .slice none 0 0] 30)) Try.prog 9 oElem
    simpa using this
  case round =>
    obtain ⟨k, hk, rfl, ⟨D, hown, htell⟩, hbel⟩ := hrel
    have HT := hid htell.step
    have HT0 := hid htell
    have hb0 : Below w.heap.size w wr := ((Below.refl _ _).alloc (Nat.le_refl _) _).trans (hbel.mono (Nat.le_succ _))
    clear htell
    by_cases hlt : k < n
    · obtain ⟨b1, o1, rfl, hc1⟩ := hK.out (by omega)
      obtain ⟨b2, o2, rfl, hc2⟩ := hS.out (by omega)
      obtain ⟨b3, o3, rfl, hc3⟩ := hV.out (by omega)
      have g1 := cell_later hb0 (hc1 k hlt)
      have g2 := cell_later hb0 (hc2 k hlt)
      have g3 := cell_later hb0 (hc3 k hlt)
      obtain ⟨w2, hrun, hown2, hgrow2⟩ := (hown.drew).update law9 Try.underlying28 (by unfold maxLen; omega) (key := .string (K k)) (kl := .string (kb K k)) (WideMaps.keyOf_string_mk Try.underlying9 (hlen.out k hlt)) (oElem_mk (S k, V k))
      have HO := hid hown2
      have HB : Below (w.heap.size + 1) (w.alloc (.cells #[.string ⟨#[]⟩, .map none, .slice none 0 0] 30)) w2 := (hbel.drew).grown hgrow2 (by have := hbel.size; simpa using this) (by intro j hj; simp at hj; omega)
      simp only [oVal] at hrun
      clear hc1 hc2 hc3 hown hown2 hgrow2 hb0 hbel
      go_wp2
      go_region
      all_goals
        go_wp2
        go_roundw
        case rel => exact ⟨k + 1, by omega, by go_num, ⟨_, HO.out, HT.out⟩, HB⟩
        case measure => simp [intOf]; omega
    · obtain rfl : k = n := by omega
      have d0 : wr.cell? ⟨w.heap.size, 0, none⟩ = some (.string ⟨#[]⟩) := by rw [hbel.cell (by simp)]; simp
      have d1 : wr.cell? ⟨w.heap.size, 1, none⟩ = some (.map none) := by rw [hbel.cell (by simp)]; simp
      have d2 : wr.cell? ⟨w.heap.size, 2, none⟩ = some (.slice none 0 0) := by rw [hbel.cell (by simp)]; simp
      have f0 : wr.frozen? ⟨w.heap.size, 0, none⟩ = false := by rw [hbel.frozen (by simp)]; simp
      have f1 : wr.frozen? ⟨w.heap.size, 1, none⟩ = false := by rw [hbel.frozen (by simp)]; simp
      have f2 : wr.frozen? ⟨w.heap.size, 2, none⟩ = false := by rw [hbel.frozen (by simp)]; simp
      have HO := hid hown
      have HB := hid hb0
      clear hown hbel hb0
      go_wp2
      refine bodyPost_ret (v := .agg #[.string ByteArray.empty, .map (some (w.heap.size + 1)), .slice none 0 0]) (by simp [results, Try.results11, go_sem, d0, d1, d2]; rfl) rfl ⟨rfl, ⟨D, ?_, HT0.out⟩, ?_⟩
      · refine ownsMap_block HO.out ?_
        rw [Below.heap_setCell _ _ _ _ (by simp), Below.heap_setCell _ _ _ _ (by simp), Below.heap_setCell _ _ _ _ (by simp)]
      · exact ((HB.out.setCell (by simp) _).setCell (by simp) _).setCell (by simp) _

end Go.Proofs.Qxb6601034a
