/-
  THE WALKS of seat b6602016a: the closing loop of stronglyConnected, whole.
-/
import Derived.Test.Qxb6602016aH5
namespace Go.Proofs.Qxb6602016a
open Go.RowKit Tar
set_option linter.unusedVariables false

theorem shut_upd (comp : Nat → Int) (c y : Nat) (l : List Nat) : upd (shut comp c l) y (c : Int) = shut comp c (y :: l) := by
  funext w
  by_cases e : w = y
  · subst e; rw [upd_same, shut_in (List.mem_cons_self ..)]
  · rw [upd_other _ _ _ _ e]
    unfold shut
    simp [e]

/-- The state while a component is closed: the nodes of ab2 have been taken off. -/
def mid (s : St) (rest ab1 ab2 : List Nat) (v : Nat) : St :=
  { s with stack := rest ++ v :: ab1, comp := shut s.comp s.comps ab2, order := s.order ++ ab2.reverse }

/-- The state when it is closed, the counter not yet. -/
def fin (s : St) (rest ab : List Nat) (v : Nat) : St :=
  { s with stack := rest, comp := shut s.comp s.comps (v :: ab), order := s.order ++ (ab.reverse ++ [v]) }

/-- One node is taken off. -/
def taken (s : St) (st : List Nat) (y c : Nat) : St := { s with stack := st, comp := upd s.comp y (c : Int) }
theorem Tm.taken {H n : Nat} {s : St} {st : List Nat} {vs vp vo : Value} {w : World} (h : Tm H n { s with stack := st } vs vp vo w) (y c : Nat) : Tm H n (taken s st y c) vs vp vo (w.setCell ⟨H, y, none⟩ (.int .i64 (c : Int))) := h.setComp y (c : Int)

/-- Capacity. -/
theorem own_cap {w : World} {base : Nat} {e : TypeId} {size : Nat} {a : Option Addr} {l c n : Nat} {xs : List Value} (h : w.ownsRow base e size (.slice a l c) n xs) : l = n ∧ l ≤ c := by
  rcases h.2 with ⟨h1, h2⟩ | ⟨g, cap, cur, h1, _, _, h2, _⟩
  · cases h1; exact ⟨h2.symm, Nat.le_refl _⟩
  · simp only [Value.slice.injEq] at h1
    obtain ⟨_, rfl, rfl⟩ := h1
    exact ⟨rfl, h2⟩

theorem shut_loop (W : World) (a : Option Addr) (k c i found v : Nat) (vp : Value) (s : St) (rest ab : List Nat) (aS : Option Addr) (lS cS : Nat) (aO : Option Addr) (lO cO : Nat) (t : Array Value) (wr : World) (Q : Exit → Act → World → Prop)
    (hk : k ≤ 512) (hst : s.stack = rest ++ v :: ab) (hnd : s.stack.Nodup) (hin : ∀ y, y ∈ s.stack → y < k) (hsz : s.order.length + s.stack.length ≤ 512)
    (hF : Fc W a k c i s.comps found v (.slice aO lO cO) (.slice aS lS cS) vp t) (hT : Tm W.heap.size k s (.slice aS lS cS) vp (.slice aO lO cO) wr) (hB : Below W.heap.size W wr)
    (hQ : ∀ t' w' aS' lS' cS' aO' lO' cO', Fc W a k c i s.comps found v (.slice aO' lO' cO') (.slice aS' lS' cS') vp t' → Tm W.heap.size k (fin s rest ab v) (.slice aS' lS' cS') vp (.slice aO' lO' cO') w' → Below W.heap.size W w' → Q (.exit 6) ⟨t', []⟩ w') :
    Code.wp Try.prog (.loop ((loopsOf (Try.f25.body.getD .skip)).getD 3 .skip)) Q ⟨t, []⟩ wr := by
  refine wp_loop_ghost (fun m act w => ∃ ab1 ab2 t aS lS cS aO lO cO, m = ab1.length ∧ ab = ab1 ++ ab2 ∧ act = ⟨t, []⟩ ∧ Fc W a k c i s.comps found v (.slice aO lO cO) (.slice aS lS cS) vp t ∧ Tm W.heap.size k (mid s rest ab1 ab2 v) (.slice aS lS cS) vp (.slice aO lO cO) w ∧ Below W.heap.size W w) ab.length ?_ ?_
  · refine ⟨ab, [], t, aS, lS, cS, aO, lO, cO, rfl, by simp, rfl, hF, ?_, hB⟩
    have e : mid s rest ab [] v = s := by
      unfold mid
      rw [← hst]
      have e1 : shut s.comp s.comps [] = s.comp := by funext w; simp [shut]
      rw [e1]
      simp
    rw [e]
    exact hT
  · rintro m act w ⟨ab1, ab2, t, aS, lS, cS, aO, lO, cO, rfl, hab, rfl, hF, hT, hB⟩
    obtain ⟨x, rfl⟩ := hF.lit
    rcases List.eq_nil_or_concat ab1 with rfl | ⟨st, y, rfl⟩
    · -- v itself
      have hs1 : (mid s rest [] ab2 v).stack = rest ++ [v] := rfl
      obtain ⟨g, cap, hvs, hg, t1, T1⟩ := hT.topStack hs1
      simp only [Value.slice.injEq] at hvs
      obtain ⟨rfl, rfl, rfl⟩ := hvs
      have hvk : v < k := hin v (by rw [hst]; simp)
      have hlo := own_cap hT.oo
      have hls := own_cap hT.os
      have hol : (mid s rest [] ab2 v).order.length = s.order.length + ab2.length := by simp [mid]
      have hsl : s.stack.length = rest.length + 1 + ab2.length := by rw [hst, hab]; simp; omega
      refine r_shut2 W a k c i s.comps found v aO lO cO g rest.length cS vp v _ (taken (mid s rest [] ab2 v) rest v s.comps) x w _ hk hvk (by omega) (by omega) (by omega) hg t1 (hT.rc.cell hvk) (hT.rc.frozen v) rfl hB (hid hlo.1) (hid (T1.taken v s.comps)) ?_
      intro t' w' g1 c1 hF' hT' hB'
      refine hQ t' w' _ _ _ _ _ _ hF' ?_ hB'
      have e : fin s rest ab v = { taken (mid s rest [] ab2 v) rest v s.comps with order := (taken (mid s rest [] ab2 v) rest v s.comps).order ++ [v] } := by
        unfold fin Go.Proofs.Qxb6602016a.taken mid
        rw [hab]
        simp only [List.nil_append]
        rw [shut_upd]
        simp
      rw [e]
      exact hT'
    · -- a node above v
      rw [List.concat_eq_append] at hab hT
      have hs1 : (mid s rest (st ++ [y]) ab2 v).stack = (rest ++ v :: st) ++ [y] := by simp [mid]
      obtain ⟨g, cap, hvs, hg, t1, T1⟩ := hT.topStack hs1
      simp only [Value.slice.injEq] at hvs
      obtain ⟨rfl, rfl, rfl⟩ := hvs
      have hys : y ∈ s.stack := by rw [hst, hab]; simp
      have hyk : y < k := hin y hys
      have hyv : ¬ ((y : Int) = (v : Int)) := by
        intro e
        have e' : y = v := by omega
        subst e'
        rw [hst, hab, List.nodup_append] at hnd
        have := hnd.2.1
        simp at this
      have hlo := own_cap hT.oo
      have hls := own_cap hT.os
      have hol : (mid s rest (st ++ [y]) ab2 v).order.length = s.order.length + ab2.length := by simp [mid]
      have hsl : s.stack.length = (rest ++ v :: st).length + 1 + ab2.length := by rw [hst, hab]; simp; omega
      refine r_shut1 W a k c i s.comps found v aO lO cO g (rest ++ v :: st).length cS vp y _ (taken (mid s rest (st ++ [y]) ab2 v) (rest ++ v :: st) y s.comps) x w _ hk hyk (by omega) (by omega) (by omega) hg t1 (hT.rc.cell hyk) (hT.rc.frozen y) hyv hB (hid hlo.1) (hid (T1.taken y s.comps)) ?_
      intro t' w' g1 c1 hF' hT' hB'
      refine ⟨st.length, by simp, st, y :: ab2, t', _, _, _, _, _, _, rfl, by rw [hab]; simp, rfl, hF', ?_, hB'⟩
      have e : mid s rest st (y :: ab2) v = { taken (mid s rest (st ++ [y]) ab2 v) (rest ++ v :: st) y s.comps with order := (taken (mid s rest (st ++ [y]) ab2 v) (rest ++ v :: st) y s.comps).order ++ [y] } := by
        unfold Go.Proofs.Qxb6602016a.taken mid
        simp only []
        rw [shut_upd]
        simp
      rw [e]
      exact hT'

end Go.Proofs.Qxb6602016a
