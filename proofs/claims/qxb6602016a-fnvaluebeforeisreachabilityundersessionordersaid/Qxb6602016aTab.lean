/-
  THE PLAIN LAW of seat b6602016a, second part: the table of how far each session is reached; the search from every node; the two laws. No Go in sight.
-/
import Derived.Test.Qxb6602016aTar
namespace Go.Proofs.Qxb6602016a.Tar
set_option linter.unusedVariables false

/-! ### The table -/
/-- What the table is made from: how many sessions; each operation's session and place. -/
structure Src where
  S : Nat
  ses : Nat → Nat
  pos : Nat → Int

theorem flat_inj {S c s c' s' : Nat} (h : s < S) (h' : s' < S) (e : c * S + s = c' * S + s') : c = c' ∧ s = s' := by
  have hS : 0 < S := by omega
  have e1 : (c * S + s) / S = c := by rw [Nat.mul_comm, Nat.mul_add_div hS]; simp [Nat.div_eq_of_lt h]
  have e2 : (c' * S + s') / S = c' := by rw [Nat.mul_comm, Nat.mul_add_div hS]; simp [Nat.div_eq_of_lt h']
  have : c = c' := by rw [← e1, ← e2, e]
  subst this
  exact ⟨rfl, by omega⟩

theorem flat_lt {S c s m : Nat} (h : s < S) (hc : c < m) : c * S + s < m * S := by
  have : (c + 1) * S ≤ m * S := Nat.mul_le_mul_right S hc
  rw [Nat.add_mul] at this
  omega

/-- Every entry is -1, or the place of an operation of that session from which every node of the component is reached. -/
def Sound (G : Gr) (D : Src) (cp : Nat → Nat) (m : Nat) (f : Nat → Int) : Prop :=
  ∀ c s, c < m → s < D.S → f (c * D.S + s) = -1 ∨ ∃ x, x < G.n ∧ D.ses x = s ∧ D.pos x = f (c * D.S + s) ∧ ∀ y, y < G.n → cp y = c → G.reach x y

theorem Sound.set {G : Gr} {D : Src} {cp : Nat → Nat} {m : Nat} {f : Nat → Int} (h : Sound G D cp m f) (c s : Nat) (hs : s < D.S) (v : Int)
    (hv : v = f (c * D.S + s) ∨ ∃ x, x < G.n ∧ D.ses x = s ∧ D.pos x = v ∧ ∀ y, y < G.n → cp y = c → G.reach x y) : Sound G D cp m (upd f (c * D.S + s) v) := by
  intro c' s' hc' hs'
  by_cases e : c' * D.S + s' = c * D.S + s
  · obtain ⟨rfl, rfl⟩ := flat_inj hs' hs e
    rw [upd_same]
    rcases hv with rfl | hv
    · exact h c' s' hc' hs'
    · exact .inr hv
  · rw [upd_other _ _ _ _ e]
    exact h c' s' hc' hs'

theorem Sound.start (G : Gr) (D : Src) (cp : Nat → Nat) (m : Nat) : Sound G D cp m fun _ => -1 := fun _ _ _ _ => .inl rfl

theorem Sound.ge {G : Gr} {D : Src} {cp : Nat → Nat} {m : Nat} {f : Nat → Int} (h : Sound G D cp m f) (hp : ∀ x, x < G.n → 0 ≤ D.pos x) {c s : Nat} (hc : c < m) (hs : s < D.S) : -1 ≤ f (c * D.S + s) := by
  rcases h c s hc hs with e | ⟨x, hx, _, e, _⟩
  · omega
  · have := hp x hx; omega

/-- A column's entry handed on along an edge between two components. -/
theorem Sound.hand {G : Gr} {D : Src} {cp : Nat → Nat} {m : Nat} {f : Nat → Int} (h : Sound G D cp m f) (hp : ∀ x, x < G.n → 0 ≤ D.pos x) (hsame : ∀ a b, a < G.n → cp a = cp b → G.reach a b) (i j s : Nat) (hi : i < G.n) (hj : j < G.n) (hci : cp i < m) (hcj : cp j < m) (hs : s < D.S) (he : G.edge i j) :
    Sound G D cp m (upd f (cp j * D.S + s) (max (f (cp j * D.S + s)) (f (cp i * D.S + s)))) := by
  refine h.set (cp j) s hs _ ?_
  by_cases hm : f (cp i * D.S + s) ≤ f (cp j * D.S + s)
  · left; omega
  · have : max (f (cp j * D.S + s)) (f (cp i * D.S + s)) = f (cp i * D.S + s) := by omega
    rw [this]
    have hge := h.ge hp hcj hs
    rcases h (cp i) s hci hs with e | ⟨x, hx, hxs, hxp, hr⟩
    · omega
    · exact .inr ⟨x, hx, hxs, hxp, fun y hy hcy => ((hr i hi rfl).trans (.one he)).trans (hsame j y hj (by rw [hcy]))⟩

/-- An operation's own place laid in. -/
theorem Sound.own {G : Gr} {D : Src} {cp : Nat → Nat} {m : Nat} {f : Nat → Int} (h : Sound G D cp m f) (hsame : ∀ a b, a < G.n → cp a = cp b → G.reach a b) (i : Nat) (hi : i < G.n) (hs : D.ses i < D.S) :
    Sound G D cp m (upd f (cp i * D.S + D.ses i) (max (f (cp i * D.S + D.ses i)) (D.pos i))) := by
  refine h.set (cp i) (D.ses i) hs _ ?_
  by_cases hm : D.pos i ≤ f (cp i * D.S + D.ses i)
  · left; omega
  · right
    refine ⟨i, hi, rfl, by omega, fun y hy hcy => hsame i y hi (by rw [hcy])⟩

theorem upd_mono {f : Nat → Int} {a : Nat} {v : Int} (h : f a ≤ v) (x : Nat) : f x ≤ upd f a v x := by
  by_cases e : x = a
  · subst e; rw [upd_same]; exact h
  · rw [upd_other _ _ _ _ e]; exact Int.le_refl _

/-- Each of the first k operations has laid its place in. -/
def Own (D : Src) (cp : Nat → Nat) (k : Nat) (f : Nat → Int) : Prop := ∀ i, i < k → D.pos i ≤ f (cp i * D.S + D.ses i)

theorem Own.mono {D : Src} {cp : Nat → Nat} {k : Nat} {f g : Nat → Int} (h : Own D cp k f) (hg : ∀ x, f x ≤ g x) : Own D cp k g := fun i hi => Int.le_trans (h i hi) (hg _)

theorem Own.step {D : Src} {cp : Nat → Nat} {k : Nat} {f : Nat → Int} (h : Own D cp k f) : Own D cp (k + 1) (upd f (cp k * D.S + D.ses k) (max (f (cp k * D.S + D.ses k)) (D.pos k))) := by
  intro i hi
  by_cases e : i = k
  · subst e; rw [upd_same]; omega
  · exact Int.le_trans (h i (by omega)) (upd_mono (by omega) _)

/-- Along edge number k of node i the table does not fall. -/
def Along (G : Gr) (D : Src) (cp : Nat → Nat) (f : Nat → Int) (i k : Nat) : Prop := ∀ s, s < D.S → f (cp i * D.S + s) ≤ f (cp (G.E i k) * D.S + s)

/-- A store into the row of a component with a smaller number keeps what holds along an edge of a node whose component is not it. -/
theorem Along.kept {G : Gr} {D : Src} {cp : Nat → Nat} {f : Nat → Int} {i k : Nat} (h : Along G D cp f i k) (c s : Nat) (hs : s < D.S) (hc : c ≠ cp i) (v : Int) (hv : f (c * D.S + s) ≤ v) : Along G D cp (upd f (c * D.S + s) v) i k := by
  intro s' hs'
  have e : cp i * D.S + s' ≠ c * D.S + s := fun e => hc (flat_inj hs' hs e).1.symm
  rw [upd_other _ _ _ _ e]
  exact Int.le_trans (h s' hs') (upd_mono hv _)

/-- THE TABLE, WHEN ALL IS DONE: at least p is reached just if an operation of that session at place p or later reaches the node. -/
theorem table_iff {G : Gr} {D : Src} {cp : Nat → Nat} {m : Nat} {f : Nat → Int} (hok : G.ok) (hp : ∀ x, x < G.n → 0 ≤ D.pos x) (hS : Sound G D cp m f) (hO : Own D cp G.n f) (hA : ∀ i k, i < G.n → k < G.deg i → Along G D cp f i k)
    (hses : ∀ x, x < G.n → D.ses x < D.S) (hcm : ∀ x, x < G.n → cp x < m) (r s : Nat) (hr : r < G.n) (hs : s < D.S) (p : Int) (hp0 : 0 ≤ p) :
    p ≤ f (cp r * D.S + s) ↔ ∃ x, x < G.n ∧ D.ses x = s ∧ p ≤ D.pos x ∧ G.reach x r := by
  constructor
  · intro h
    rcases hS (cp r) s (hcm r hr) hs with e | ⟨x, hx, hxs, hxp, hre⟩
    · omega
    · exact ⟨x, hx, hxs, by omega, hre r hr rfl⟩
  · rintro ⟨x, hx, rfl, hxp, k, hk⟩
    have key : ∀ k y, y < G.n → G.way k y r → f (cp y * D.S + D.ses x) ≤ f (cp r * D.S + D.ses x) := by
      intro k
      induction k with
      | zero => intro y _ hw; cases hw; exact Int.le_refl _
      | succ k ih =>
        intro y hy hw
        obtain ⟨z, ⟨_, e, he, rfl⟩, hw⟩ := hw
        exact Int.le_trans (hA y e hy he _ (hses x hx)) (ih _ (hok y hy e he) hw)
    have h1 := hO x hx
    have h2 := key k x hx hk
    omega

/-! ### The search from one node -/
/-- vis: the nodes that were met; q: the queue, 'tail' of them, the first 'head' done. -/
structure Bfs (G : Gr) (s : Nat) (vis : Nat → Bool) (q : Nat → Nat) (head tail : Nat) : Prop where
  self : vis s = true
  lt : ∀ i, i < tail → q i < G.n
  inq : ∀ i, i < tail → vis (q i) = true
  met : ∀ y, y < G.n → vis y = true → ∃ i, i < tail ∧ q i = y
  apart : ∀ i j, i < tail → j < tail → q i = q j → i = j
  reach : ∀ y, y < G.n → vis y = true → G.reach s y
  done : ∀ i, i < head → ∀ k, k < G.deg (q i) → vis (G.E (q i) k) = true
  ht : head ≤ tail

theorem Bfs.start (G : Gr) (s : Nat) (hs : s < G.n) (q : Nat → Nat) : Bfs G s (fun y => y == s) (upd q 0 s) 0 1 := by
  constructor
  · simp
  · intro i hi; obtain rfl : i = 0 := by omega
    rw [upd_same]; exact hs
  · intro i hi; obtain rfl : i = 0 := by omega
    rw [upd_same]; simp
  · intro y _ hy; exact ⟨0, by omega, by rw [upd_same]; exact (eq_of_beq hy).symm⟩
  · intro i j hi hj _; omega
  · intro y _ hy; rw [eq_of_beq hy]; exact .refl _
  · intro i hi; omega
  · omega

theorem Bfs.nodup {G : Gr} {s : Nat} {vis : Nat → Bool} {q : Nat → Nat} {head tail : Nat} (h : Bfs G s vis q head tail) : ((List.range tail).map q).Nodup := by
  rw [List.Nodup, List.pairwise_map]
  refine (List.nodup_range (n := tail)).imp_of_mem ?_
  intro a b ha hb hne e
  exact hne (h.apart a b (List.mem_range.1 ha) (List.mem_range.1 hb) e)

theorem Bfs.tail_le {G : Gr} {s : Nat} {vis : Nat → Bool} {q : Nat → Nat} {head tail : Nat} (h : Bfs G s vis q head tail) : tail ≤ G.n := by
  have := h.nodup.length_le_of_subset (l₂ := List.range G.n) (by
    intro y hy
    obtain ⟨i, hi, rfl⟩ := List.mem_map.1 hy
    exact List.mem_range.2 (h.lt i (List.mem_range.1 hi)))
  simpa using this

theorem Bfs.tail_lt {G : Gr} {s : Nat} {vis : Nat → Bool} {q : Nat → Nat} {head tail : Nat} (h : Bfs G s vis q head tail) {w : Nat} (hw : w < G.n) (hv : vis w = false) : tail < G.n := by
  have hnd : (w :: (List.range tail).map q).Nodup := by
    rw [List.nodup_cons]
    refine ⟨fun hm => ?_, h.nodup⟩
    obtain ⟨i, hi, rfl⟩ := List.mem_map.1 hm
    rw [h.inq i (List.mem_range.1 hi)] at hv
    cases hv
  have := hnd.length_le_of_subset (l₂ := List.range G.n) (by
    intro y hy
    rcases List.mem_cons.1 hy with rfl | hy
    · exact List.mem_range.2 hw
    · obtain ⟨i, hi, rfl⟩ := List.mem_map.1 hy
      exact List.mem_range.2 (h.lt i (List.mem_range.1 hi)))
  simp at this
  omega

/-- A node that was not met comes to the queue's end. -/
theorem Bfs.add {G : Gr} {s : Nat} {vis : Nat → Bool} {q : Nat → Nat} {head tail : Nat} (h : Bfs G s vis q head tail) (w : Nat) (hw : w < G.n) (hv : vis w = false) (hr : G.reach s w) : Bfs G s (upd vis w true) (upd q tail w) head (tail + 1) := by
  have hq : ∀ i, i < tail → upd q tail w i = q i := fun i hi => upd_other _ _ _ _ (by omega)
  have hvm : ∀ y, vis y = true → upd vis w true y = true := by
    intro y hy
    by_cases e : y = w
    · subst e; exact upd_same _ _ _
    · rw [upd_other _ _ _ _ e]; exact hy
  constructor
  · exact hvm _ h.self
  · intro i hi
    by_cases e : i = tail
    · subst e; rw [upd_same]; exact hw
    · rw [hq i (by omega)]; exact h.lt i (by omega)
  · intro i hi
    by_cases e : i = tail
    · subst e; rw [upd_same]; exact upd_same _ _ _
    · rw [hq i (by omega)]; exact hvm _ (h.inq i (by omega))
  · intro y hy hvy
    by_cases e : y = w
    · subst e; exact ⟨tail, by omega, upd_same _ _ _⟩
    · rw [upd_other _ _ _ _ e] at hvy
      obtain ⟨i, hi, he⟩ := h.met y hy hvy
      exact ⟨i, by omega, by rw [hq i hi]; exact he⟩
  · intro i j hi hj e
    by_cases ei : i = tail
    · by_cases ej : j = tail
      · omega
      · subst ei
        rw [upd_same, hq j (by omega)] at e
        have := h.inq j (by omega)
        rw [← e, hv] at this
        cases this
    · by_cases ej : j = tail
      · subst ej
        rw [upd_same, hq i (by omega)] at e
        have := h.inq i (by omega)
        rw [e, hv] at this
        cases this
      · rw [hq i (by omega), hq j (by omega)] at e
        exact h.apart i j (by omega) (by omega) e
  · intro y hy hvy
    by_cases e : y = w
    · subst e; exact hr
    · rw [upd_other _ _ _ _ e] at hvy
      exact h.reach y hy hvy
  · intro i hi k hk
    have := h.ht
    rw [hq i (by omega)] at hk ⊢
    exact hvm _ (h.done i hi k hk)
  · have := h.ht; omega

/-- The queue's next node has been done. -/
theorem Bfs.next {G : Gr} {s : Nat} {vis : Nat → Bool} {q : Nat → Nat} {head tail : Nat} (h : Bfs G s vis q head tail) (hlt : head < tail) (hd : ∀ k, k < G.deg (q head) → vis (G.E (q head) k) = true) : Bfs G s vis q (head + 1) tail :=
  ⟨h.self, h.lt, h.inq, h.met, h.apart, h.reach, fun i hi k hk => by
    by_cases e : i = head
    · subst e; exact hd k hk
    · exact h.done i (by omega) k hk, by omega⟩

/-- Behind the search: met just if reached. -/
theorem Bfs.iff {G : Gr} (hok : G.ok) {s : Nat} {vis : Nat → Bool} {q : Nat → Nat} {tail : Nat} (h : Bfs G s vis q tail tail) (hs : s < G.n) (y : Nat) (hy : y < G.n) : vis y = true ↔ G.reach s y := by
  refine ⟨h.reach y hy, ?_⟩
  rintro ⟨k, hk⟩
  have key : ∀ k x, x < G.n → vis x = true → G.way k x y → vis y = true := by
    intro k
    induction k with
    | zero => intro x _ hx hw; cases hw; exact hx
    | succ k ih =>
      intro x hxn hx hw
      obtain ⟨z, ⟨_, e, he, rfl⟩, hw⟩ := hw
      obtain ⟨i, hi, rfl⟩ := h.met x hxn hx
      exact ih _ (hok _ hxn e he) (h.done i hi e he) hw
  exact key k s hs h.self hk

end Go.Proofs.Qxb6602016a.Tar
