/-
  THE PLAIN LAW of seat b6602016a, third part: the table is filled: each store, and the end. No Go in sight.
-/
import Derived.Test.Qxb6602016aTab
namespace Go.Proofs.Qxb6602016a.Tar
set_option linter.unusedVariables false

/-- While the table is filled: the nodes o 0 .. o (k - 1) are done; of node i the first e edges; of edge e the first s columns. -/
structure Tb (G : Gr) (D : Src) (cp : Nat → Nat) (m : Nat) (o : Nat → Nat) (k i e s : Nat) (f : Nat → Int) : Prop where
  snd : Sound G D cp m f
  own : Own D cp G.n f
  old : ∀ p, p < k → ∀ e', e' < G.deg (o p) → Along G D cp f (o p) e'
  cur : ∀ e', e' < e → Along G D cp f i e'
  col : ∀ s', s' < s → f (cp i * D.S + s') ≤ f (cp (G.E i e) * D.S + s')

section
variable {G : Gr} {D : Src} {cp : Nat → Nat} {m : Nat} {o : Nat → Nat} {k i e s : Nat} {f : Nat → Int}

theorem Tb.start (h1 : Sound G D cp m f) (h2 : Own D cp G.n f) (i : Nat) : Tb G D cp m o 0 i 0 0 f :=
  ⟨h1, h2, fun p hp => by omega, fun e he => by omega, fun s hs => by omega⟩

theorem Tb.store (h : Tb G D cp m o k i e s f) (hp : ∀ x, x < G.n → 0 ≤ D.pos x) (hsame : ∀ a b, a < G.n → cp a = cp b → G.reach a b) (hi : i < G.n) (he : e < G.deg i) (hj : G.E i e < G.n) (hci : cp i < m) (hcj : cp (G.E i e) < m) (hs : s < D.S)
    (hne : cp (G.E i e) ≠ cp i) (hold : ∀ p, p < k → cp (o p) ≠ cp (G.E i e)) :
    Tb G D cp m o k i e (s + 1) (upd f (cp (G.E i e) * D.S + s) (max (f (cp (G.E i e) * D.S + s)) (f (cp i * D.S + s)))) := by
  refine ⟨h.snd.hand hp hsame i (G.E i e) s hi hj hci hcj hs ⟨hi, e, he, rfl⟩, h.own.mono (upd_mono (by omega)), ?_, ?_, ?_⟩
  · intro p hp' e' he'
    exact (h.old p hp' e' he').kept _ s hs (fun x => hold p hp' x.symm) _ (by omega)
  · intro e' he'
    exact (h.cur e' he').kept _ s hs hne _ (by omega)
  · intro s' hs'
    have e1 : cp i * D.S + s' ≠ cp (G.E i e) * D.S + s := fun x => hne (flat_inj (by omega) hs x).1.symm
    rw [upd_other _ _ _ _ e1]
    by_cases e2 : s' = s
    · subst e2; rw [upd_same]; omega
    · exact Int.le_trans (h.col s' (by omega)) (upd_mono (by omega) _)

theorem Tb.edge (h : Tb G D cp m o k i e D.S f) : Tb G D cp m o k i (e + 1) 0 f :=
  ⟨h.snd, h.own, h.old, fun e' he' => by
    by_cases x : e' = e
    · subst x; exact h.col
    · exact h.cur e' (by omega), fun s hs => by omega⟩

theorem Tb.same (h : Tb G D cp m o k i e s f) (hc : cp (G.E i e) = cp i) : Tb G D cp m o k i (e + 1) 0 f :=
  ⟨h.snd, h.own, h.old, fun e' he' => by
    by_cases x : e' = e
    · subst x; intro s' hs'; rw [hc]; exact Int.le_refl _
    · exact h.cur e' (by omega), fun s hs => by omega⟩

theorem Tb.node (h : Tb G D cp m o k i (G.deg i) s f) (ho : o k = i) (i' : Nat) : Tb G D cp m o (k + 1) i' 0 0 f :=
  ⟨h.snd, h.own, fun p hp e' he' => by
    by_cases x : p = k
    · subst x; rw [ho] at he' ⊢; exact h.cur e' he'
    · exact h.old p (by omega) e' he', fun e he => by omega, fun s hs => by omega⟩

theorem Tb.at (h : Tb G D cp m o k i 0 0 f) (i' : Nat) : Tb G D cp m o k i' 0 0 f := ⟨h.snd, h.own, h.old, fun e he => by omega, fun s hs => by omega⟩
end

/-- What the filled table says. -/
def Filled (G : Gr) (D : Src) (cp : Nat → Nat) (f : Nat → Int) : Prop :=
  ∀ r s, r < G.n → s < D.S → ∀ p : Int, 0 ≤ p → (p ≤ f (cp r * D.S + s) ↔ ∃ x, x < G.n ∧ D.ses x = s ∧ p ≤ D.pos x ∧ G.reach x r)

theorem Tb.filled {G : Gr} {D : Src} {cp : Nat → Nat} {m : Nat} {o : Nat → Nat} {k i : Nat} {f : Nat → Int} (h : Tb G D cp m o k i 0 0 f) (hok : G.ok) (hp : ∀ x, x < G.n → 0 ≤ D.pos x) (hses : ∀ x, x < G.n → D.ses x < D.S) (hcm : ∀ x, x < G.n → cp x < m)
    (hall : ∀ x, x < G.n → ∃ p, p < k ∧ o p = x) : Filled G D cp f := by
  intro r s hr hs p hp0
  refine table_iff hok hp h.snd h.own ?_ hses hcm r s hr hs p hp0
  intro x e hx he
  obtain ⟨q, hq, rfl⟩ := hall x hx
  exact h.old q hq e he

end Go.Proofs.Qxb6602016a.Tar
