/-
  THE PLAIN LAW of seat b6602016a, first part: Tarjan's algorithm without recursion, over plain functions and lists: the invariant and what each move does to it. No Go in sight.
-/
namespace Go.Proofs.Qxb6602016a.Tar

/-- A graph: n nodes, the i-th with deg i edges, the k-th of them to E i k. -/
structure Gr where
  n : Nat
  deg : Nat → Nat
  E : Nat → Nat → Nat

/-- Every edge leads to a node. -/
def Gr.ok (G : Gr) : Prop := ∀ i, i < G.n → ∀ k, k < G.deg i → G.E i k < G.n

def Gr.edge (G : Gr) (x y : Nat) : Prop := x < G.n ∧ ∃ k, k < G.deg x ∧ G.E x k = y

/-- A way of k edges. -/
def Gr.way (G : Gr) : Nat → Nat → Nat → Prop
  | 0, x, y => x = y
  | k + 1, x, y => ∃ z, G.edge x z ∧ G.way k z y

def Gr.reach (G : Gr) (x y : Nat) : Prop := ∃ k, G.way k x y

section
variable {G : Gr}
theorem Gr.reach.refl (x : Nat) : G.reach x x := ⟨0, rfl⟩
theorem Gr.reach.head {x y z : Nat} (h : G.edge x y) (h2 : G.reach y z) : G.reach x z := by
  obtain ⟨k, hk⟩ := h2
  exact ⟨k + 1, y, h, hk⟩
theorem way_trans {k : Nat} : ∀ {x y z : Nat}, G.way k x y → G.reach y z → G.reach x z := by
  induction k with
  | zero => intro x y z h h2; cases h; exact h2
  | succ k ih => intro x y z h h2; obtain ⟨u, hu, hk⟩ := h; exact Gr.reach.head hu (ih hk h2)
theorem Gr.reach.trans {x y z : Nat} (h : G.reach x y) (h2 : G.reach y z) : G.reach x z := by
  obtain ⟨k, hk⟩ := h
  exact way_trans hk h2
theorem Gr.reach.one {x y : Nat} (h : G.edge x y) : G.reach x y := .head h (.refl y)
end

def upd {α : Type} (f : Nat → α) (a : Nat) (b : α) : Nat → α := fun x => if x = a then b else f x
theorem upd_same {α : Type} (f : Nat → α) (a : Nat) (b : α) : upd f a b a = b := by simp [upd]
theorem upd_other {α : Type} (f : Nat → α) (a : Nat) (b : α) (x : Nat) (h : x ≠ a) : upd f a b x = f x := by simp [upd, h]

/-- The algorithm's state. stack, path: the bottom first. ptr: how many edges of a node have been looked at. -/
structure St where
  idx : Nat → Nat
  low : Nat → Nat
  ptr : Nat → Nat
  comp : Nat → Int
  stack : List Nat
  path : List Nat
  order : List Nat
  found : Nat
  comps : Nat

structure Inv (G : Gr) (s : St) : Prop where
  idxle : ∀ w, s.idx w ≤ s.found
  idxlt : ∀ w, s.idx w ≠ 0 → w < G.n
  inj : ∀ a b, s.idx a ≠ 0 → s.idx a = s.idx b → a = b
  cnt : s.found = ((List.range G.n).filter fun w => s.idx w != 0).length
  mem : ∀ w, w ∈ s.stack ↔ (s.idx w ≠ 0 ∧ s.comp w < 0)
  srt : s.stack.Pairwise fun a b => s.idx a < s.idx b
  psrt : s.path.Pairwise fun a b => s.idx a < s.idx b
  pmem : ∀ p, p ∈ s.path → p ∈ s.stack
  pdeg : ∀ w, s.ptr w ≤ G.deg w
  pun : ∀ w, s.idx w = 0 → s.ptr w = 0
  pfin : ∀ w, s.idx w ≠ 0 → w ∉ s.path → s.ptr w = G.deg w
  r1 : ∀ p, p ∈ s.path → ∀ w, w ∈ s.stack → s.idx p ≤ s.idx w → G.reach p w
  r3 : ∀ w, w ∈ s.stack → w ∉ s.path → ∀ p, p ∈ s.path → s.idx p < s.idx w → (∀ q, q ∈ s.path → s.idx q < s.idx w → s.idx q ≤ s.idx p) → s.low p ≤ s.low w
  r4 : ∀ w, w ∈ s.stack → w ∉ s.path → s.low w < s.idx w
  r5 : ∀ w, w ∈ s.stack → ∃ x, x ∈ s.stack ∧ s.idx x = s.low w ∧ G.reach w x
  r6 : ∀ w, w ∈ s.stack → s.low w ≤ s.idx w
  e1 : ∀ w k, k < s.ptr w → s.idx (G.E w k) ≠ 0
  e2 : ∀ w k, k < s.ptr w → w ∈ s.stack → G.E w k ∈ s.stack → s.low w ≤ s.idx (G.E w k)
  e3 : ∀ w k, k < s.ptr w → 0 ≤ s.comp w → 0 ≤ s.comp (G.E w k) ∧ s.comp (G.E w k) ≤ s.comp w
  c1 : ∀ w, s.comp w < s.comps ∧ -1 ≤ s.comp w
  c0 : ∀ w, 0 ≤ s.comp w → s.idx w ≠ 0
  c2 : ∀ a b, 0 ≤ s.comp a → s.comp a = s.comp b → G.reach a b
  o1 : ∀ w, w ∈ s.order ↔ 0 ≤ s.comp w
  o2 : s.order.Pairwise fun a b => s.comp a ≤ s.comp b
  o3 : s.order.Nodup
  o4 : s.comps ≤ s.order.length

def St.start : St := ⟨fun _ => 0, fun _ => 0, fun _ => 0, fun _ => -1, [], [], [], 0, 0⟩

theorem Inv.start (G : Gr) : Inv G St.start := by
  constructor <;> simp [St.start]
  rw [List.filter_eq_nil_iff.2 (by simp)]
  rfl

/-- A filter whose test is turned on at one more place. -/
theorem filter_more (n : Nat) (p q : Nat → Bool) (i : Nat) (hi : i < n) (hp : p i = false) (hq : ∀ j, j < n → q j = (p j || (j == i))) : ((List.range n).filter q).length = ((List.range n).filter p).length + 1 := by
  induction n with
  | zero => omega
  | succ n ih =>
    rw [List.range_succ, List.filter_append, List.filter_append, List.length_append, List.length_append]
    have hqn := hq n (by omega)
    by_cases e : i = n
    · subst e
      have h1 : (List.range i).filter q = (List.range i).filter p := by
        apply List.filter_congr
        intro j hj
        have hj' := List.mem_range.1 hj
        rw [hq j (by omega)]
        have : (j == i) = false := by simp; omega
        rw [this, Bool.or_false]
      rw [h1]
      simp [hqn, hp]
    · have hni : (n == i) = false := by simp; omega
      rw [hni, Bool.or_false] at hqn
      have h1 := ih (by omega) (fun j hj => hq j (by omega))
      cases hpn : p n with
      | false => simp [hqn, hpn]; exact h1
      | true => simp [hqn, hpn]; omega

section
variable {G : Gr} {s : St}

theorem Inv.unfound (h : Inv G s) {w : Nat} (h0 : s.idx w = 0) : w ∉ s.stack ∧ w ∉ s.path ∧ s.comp w < 0 := by
  have h1 : w ∉ s.stack := fun hm => ((h.mem w).1 hm).1 h0
  refine ⟨h1, fun hp => h1 (h.pmem w hp), ?_⟩
  have := h.c0 w
  omega

theorem Inv.pos (h : Inv G s) {w : Nat} (hm : w ∈ s.stack) : s.idx w ≠ 0 ∧ s.comp w < 0 := (h.mem w).1 hm

/-- A NEW NODE IS FOUND: it comes onto the stack and onto the path. -/
theorem Inv.find (h : Inv G s) (w : Nat) (hw : w < G.n) (h0 : s.idx w = 0) (ptr' : Nat → Nat) (hpd : ∀ u, ptr' u ≤ G.deg u) (hpu : ∀ u, s.idx u = 0 → ptr' u = 0) (hpf : ∀ u, s.idx u ≠ 0 → u ∉ s.path → ptr' u = G.deg u)
    (hpe : ∀ u k, k < ptr' u → k < s.ptr u ∨ (G.E u k = w ∧ s.idx u ≠ 0 ∧ s.comp u < 0)) (hre : ∀ p, p ∈ s.path → G.reach p w) :
    Inv G { s with idx := upd s.idx w (s.found + 1), low := upd s.low w (s.found + 1), ptr := ptr', stack := s.stack ++ [w], path := s.path ++ [w], found := s.found + 1 } := by
  obtain ⟨hns, hnp, hcw⟩ := h.unfound h0
  have hi : ∀ u, u ≠ w → upd s.idx w (s.found + 1) u = s.idx u := fun u hu => upd_other _ _ _ _ hu
  have hl : ∀ u, u ≠ w → upd s.low w (s.found + 1) u = s.low u := fun u hu => upd_other _ _ _ _ hu
  have hiw : upd s.idx w (s.found + 1) w = s.found + 1 := upd_same _ _ _
  have hlw : upd s.low w (s.found + 1) w = s.found + 1 := upd_same _ _ _
  have hsn : ∀ u, u ∈ s.stack → u ≠ w := fun u hu e => hns (e ▸ hu)
  have hpn : ∀ u, u ∈ s.path → u ≠ w := fun u hu e => hnp (e ▸ hu)
  have hle := h.idxle
  constructor
  case idxle =>
    intro u
    by_cases e : u = w
    · subst e; simp only [hiw]; omega
    · simp only [hi u e]; have := hle u; omega
  case idxlt =>
    intro u hu
    by_cases e : u = w
    · subst e; exact hw
    · simp only [hi u e] at hu; exact h.idxlt u hu
  case inj =>
    intro a b ha hab
    by_cases ea : a = w
    · by_cases eb : b = w
      · rw [ea, eb]
      · subst ea; simp only [hiw, hi b eb] at hab; have := hle b; omega
    · by_cases eb : b = w
      · subst eb; simp only [hiw, hi a ea] at hab; have := hle a; omega
      · simp only [hi a ea, hi b eb] at hab ha; exact h.inj a b ha hab
  case cnt =>
    show s.found + 1 = _
    rw [filter_more G.n (fun u => s.idx u != 0) _ w hw (by simp [h0])]
    · rw [← h.cnt]
    · intro j hj
      by_cases e : j = w
      · subst e; simp [hiw]
      · simp [hi j e, e]
  case mem =>
    intro u
    simp only [List.mem_append, List.mem_singleton]
    by_cases e : u = w
    · subst e; simp [hiw, hcw]
    · simp only [hi u e, e, or_false]; exact h.mem u
  case srt =>
    rw [List.pairwise_append]
    refine ⟨h.srt.imp_of_mem ?_, List.pairwise_singleton _ _, ?_⟩
    · intro a b ha hb hab; simp only [hi a (hsn a ha), hi b (hsn b hb)]; exact hab
    · intro a ha b hb
      simp at hb; subst hb
      simp only [hi a (hsn a ha), hiw]; have := hle a; omega
  case psrt =>
    rw [List.pairwise_append]
    refine ⟨h.psrt.imp_of_mem ?_, List.pairwise_singleton _ _, ?_⟩
    · intro a b ha hb hab; simp only [hi a (hpn a ha), hi b (hpn b hb)]; exact hab
    · intro a ha b hb
      simp at hb; subst hb
      simp only [hi a (hpn a ha), hiw]; have := hle a; omega
  case pmem =>
    intro p hp
    simp only [List.mem_append, List.mem_singleton] at hp ⊢
    rcases hp with hp | hp
    · exact .inl (h.pmem p hp)
    · exact .inr hp
  case pdeg => exact hpd
  case pun =>
    intro u hu
    by_cases e : u = w
    · subst e; simp only [hiw] at hu; omega
    · simp only [hi u e] at hu; exact hpu u hu
  case pfin =>
    intro u hu hup
    simp only [List.mem_append, List.mem_singleton, not_or] at hup
    simp only [hi u hup.2] at hu
    exact hpf u hu hup.1
  case r1 =>
    intro p hp u hu hpu'
    simp only [List.mem_append, List.mem_singleton] at hp hu
    rcases hp with hp | rfl
    · rcases hu with hu | rfl
      · simp only [hi p (hpn p hp), hi u (hsn u hu)] at hpu'; exact h.r1 p hp u hu hpu'
      · exact hre p hp
    · rcases hu with hu | rfl
      · simp only [hiw, hi u (hsn u hu)] at hpu'; have := hle u; omega
      · exact .refl _
  case r3 =>
    intro u hu hup p hp hpu' htop
    simp only [List.mem_append, List.mem_singleton, not_or] at hp hu hup
    rcases hu with hu | hu
    · rcases hp with hp | rfl
      · simp only [hi p (hpn p hp), hi u (hsn u hu), hl p (hpn p hp), hl u (hsn u hu)] at hpu' htop ⊢
        refine h.r3 u hu hup.1 p hp hpu' (fun q hq hqu => ?_)
        have := htop q (List.mem_append_left _ hq)
        simp only [hi q (hpn q hq)] at this
        exact this hqu
      · simp only [hiw, hi u (hsn u hu)] at hpu'; have := hle u; omega
    · exact absurd hu hup.2
  case r4 =>
    intro u hu hup
    simp only [List.mem_append, List.mem_singleton, not_or] at hu hup
    rcases hu with hu | hu
    · simp only [hi u (hsn u hu), hl u (hsn u hu)]; exact h.r4 u hu hup.1
    · exact absurd hu hup.2
  case r5 =>
    intro u hu
    simp only [List.mem_append, List.mem_singleton] at hu
    rcases hu with hu | rfl
    · obtain ⟨x, hx, he, hr⟩ := h.r5 u hu
      exact ⟨x, List.mem_append_left _ hx, by simp only [hi x (hsn x hx), hl u (hsn u hu)]; exact he, hr⟩
    · exact ⟨u, List.mem_append_right _ (List.mem_singleton.2 rfl), by simp only [hiw, hlw], .refl _⟩
  case r6 =>
    intro u hu
    simp only [List.mem_append, List.mem_singleton] at hu
    rcases hu with hu | rfl
    · simp only [hi u (hsn u hu), hl u (hsn u hu)]; exact h.r6 u hu
    · simp only [hiw, hlw]; exact Nat.le_refl _
  case e1 =>
    intro u k hk
    show upd s.idx w (s.found + 1) (G.E u k) ≠ 0
    by_cases e : G.E u k = w
    · rw [e, hiw]; omega
    · rw [hi _ e]
      rcases hpe u k hk with hk' | hk'
      · exact h.e1 u k hk'
      · exact absurd hk'.1 e
  case e2 =>
    intro u k hk hu hv
    show upd s.low w (s.found + 1) u ≤ upd s.idx w (s.found + 1) (G.E u k)
    have hk0 := hk
    simp only [List.mem_append, List.mem_singleton] at hu hv
    by_cases e : G.E u k = w
    · rw [e, hiw]
      rcases hu with hu | rfl
      · rw [hl u (hsn u hu)]
        have h6 := h.r6 u hu
        have := hle u
        omega
      · rw [hlw]; exact Nat.le_refl _
    · have hv' : G.E u k ∈ s.stack := by rcases hv with hv | hv; exact hv; exact absurd hv e
      rw [hi _ e]
      rcases hpe u k hk with hk' | hk'
      · rcases hu with hu | rfl
        · rw [hl u (hsn u hu)]; exact h.e2 u k hk' hu hv'
        · have := h.pun u h0; omega
      · exact absurd hk'.1 e
  case e3 =>
    intro u k hk hu
    rcases hpe u k hk with hk' | hk'
    · exact h.e3 u k hk' hu
    · have := hk'.2.2
      have hu' : 0 ≤ s.comp u := hu
      omega
  case c1 => exact h.c1
  case c0 =>
    intro u hu
    by_cases e : u = w
    · subst e; have hu' : 0 ≤ s.comp u := hu; omega
    · simp only [hi u e]; exact h.c0 u hu
  case c2 => exact h.c2
  case o1 => exact h.o1
  case o2 => exact h.o2
  case o3 => exact h.o3
  case o4 => exact h.o4

/-- AN EDGE TO A NODE THAT WAS FOUND: the top of the path has looked at one edge more; its 'low' may fall to that node's index, where the node is on the stack. -/
theorem Inv.look (h : Inv G s) (v l' : Nat) (hv : v ∈ s.path) (hd : s.ptr v < G.deg v) (hw : s.idx (G.E v (s.ptr v)) ≠ 0) (hl1 : l' ≤ s.low v) (hl2 : s.comp (G.E v (s.ptr v)) < 0 → l' ≤ s.idx (G.E v (s.ptr v)))
    (hl3 : l' = s.low v ∨ (s.comp (G.E v (s.ptr v)) < 0 ∧ l' = s.idx (G.E v (s.ptr v)))) :
    Inv G { s with ptr := upd s.ptr v (s.ptr v + 1), low := upd s.low v l' } := by
  have hvs := h.pmem v hv
  obtain ⟨hv0, hvc⟩ := h.pos hvs
  have hlo : ∀ u, u ≠ v → upd s.low v l' u = s.low u := fun u hu => upd_other _ _ _ _ hu
  have hlv : upd s.low v l' v = l' := upd_same _ _ _
  have hpo : ∀ u, u ≠ v → upd s.ptr v (s.ptr v + 1) u = s.ptr u := fun u hu => upd_other _ _ _ _ hu
  have hpv : upd s.ptr v (s.ptr v + 1) v = s.ptr v + 1 := upd_same _ _ _
  have hle : ∀ u, upd s.low v l' u ≤ s.low u := by
    intro u
    by_cases e : u = v
    · subst e; rw [hlv]; exact hl1
    · rw [hlo u e]; exact Nat.le_refl _
  have hk : ∀ u k, k < upd s.ptr v (s.ptr v + 1) u → k < s.ptr u ∨ (u = v ∧ k = s.ptr v) := by
    intro u k hk
    by_cases e : u = v
    · subst e; rw [hpv] at hk; omega
    · rw [hpo u e] at hk; exact .inl hk
  constructor
  case idxle => exact h.idxle
  case idxlt => exact h.idxlt
  case inj => exact h.inj
  case cnt => exact h.cnt
  case mem => exact h.mem
  case srt => exact h.srt
  case psrt => exact h.psrt
  case pmem => exact h.pmem
  case pdeg =>
    intro u
    show upd s.ptr v (s.ptr v + 1) u ≤ _
    by_cases e : u = v
    · subst e; rw [hpv]; omega
    · rw [hpo u e]; exact h.pdeg u
  case pun =>
    intro u hu
    show upd s.ptr v (s.ptr v + 1) u = _
    have hu' : s.idx u = 0 := hu
    rw [hpo u (fun e => hv0 (e ▸ hu'))]; exact h.pun u hu
  case pfin =>
    intro u hu hup
    show upd s.ptr v (s.ptr v + 1) u = _
    have hup' : u ∉ s.path := hup
    rw [hpo u (fun e => hup' (e ▸ hv))]; exact h.pfin u hu hup
  case r1 => exact h.r1
  case r3 =>
    intro u hu hup p hp hpu htop
    have hup' : u ∉ s.path := hup
    show upd s.low v l' p ≤ upd s.low v l' u
    rw [hlo u (fun e => hup' (e ▸ hv))]
    exact Nat.le_trans (hle p) (h.r3 u hu hup p hp hpu htop)
  case r4 =>
    intro u hu hup
    exact Nat.lt_of_le_of_lt (hle u) (h.r4 u hu hup)
  case r5 =>
    intro u hu
    show ∃ x, x ∈ s.stack ∧ s.idx x = upd s.low v l' u ∧ G.reach u x
    by_cases e : u = v
    · subst e
      rw [hlv]
      rcases hl3 with e3 | ⟨hc, e3⟩
      · rw [e3]; exact h.r5 u hu
      · exact ⟨G.E u (s.ptr u), (h.mem _).2 ⟨hw, hc⟩, e3.symm, .one ⟨h.idxlt u hv0, s.ptr u, hd, rfl⟩⟩
    · rw [hlo u e]; exact h.r5 u hu
  case r6 => intro u hu; exact Nat.le_trans (hle u) (h.r6 u hu)
  case e1 =>
    intro u k hk'
    rcases hk u k hk' with h1 | ⟨rfl, rfl⟩
    · exact h.e1 u k h1
    · exact hw
  case e2 =>
    intro u k hk' hu hv'
    show upd s.low v l' u ≤ s.idx (G.E u k)
    rcases hk u k hk' with h1 | ⟨rfl, rfl⟩
    · exact Nat.le_trans (hle u) (h.e2 u k h1 hu hv')
    · rw [hlv]; exact hl2 (h.pos hv').2
  case e3 =>
    intro u k hk' hu
    rcases hk u k hk' with h1 | ⟨rfl, rfl⟩
    · exact h.e3 u k h1 hu
    · have hu' : 0 ≤ s.comp u := hu; omega
  case c1 => exact h.c1
  case c0 => exact h.c0
  case c2 => exact h.c2
  case o1 => exact h.o1
  case o2 => exact h.o2
  case o3 => exact h.o3
  case o4 => exact h.o4

/-- The top of the path has the greatest index on it. -/
theorem Inv.top (h : Inv G s) {ps : List Nat} {v : Nat} (hp : s.path = ps ++ [v]) : ∀ p, p ∈ ps → s.idx p < s.idx v := by
  have := h.psrt
  rw [hp, List.pairwise_append] at this
  intro p hp'
  exact this.2.2 p hp' v (List.mem_singleton.2 rfl)

/-- THE TOP OF THE PATH IS DONE: 'low' is handed down to the node below. -/
theorem Inv.hand (h : Inv G s) (ps : List Nat) (u v : Nat) (hp : s.path = ps ++ [u] ++ [v]) :
    Inv G { s with low := upd s.low u (min (s.low u) (s.low v)) } ∧ min (s.low u) (s.low v) ≤ s.low v := by
  refine ⟨?_, by omega⟩
  have hu : u ∈ s.path := by rw [hp]; simp
  have hv : v ∈ s.path := by rw [hp]; simp
  have hus := h.pmem u hu
  have hvs := h.pmem v hv
  have hlt : s.idx u < s.idx v := h.top hp u (by simp)
  have hlo : ∀ x, x ≠ u → upd s.low u (min (s.low u) (s.low v)) x = s.low x := fun x hx => upd_other _ _ _ _ hx
  have hlu : upd s.low u (min (s.low u) (s.low v)) u = min (s.low u) (s.low v) := upd_same _ _ _
  have hle : ∀ x, upd s.low u (min (s.low u) (s.low v)) x ≤ s.low x := by
    intro x
    by_cases e : x = u
    · subst e; rw [hlu]; omega
    · rw [hlo x e]; exact Nat.le_refl _
  constructor
  case idxle => exact h.idxle
  case idxlt => exact h.idxlt
  case inj => exact h.inj
  case cnt => exact h.cnt
  case mem => exact h.mem
  case srt => exact h.srt
  case psrt => exact h.psrt
  case pmem => exact h.pmem
  case pdeg => exact h.pdeg
  case pun => exact h.pun
  case pfin => exact h.pfin
  case r1 => exact h.r1
  case r3 =>
    intro x hx hxp p hp' hpx htop
    have hxp' : x ∉ s.path := hxp
    show upd s.low u _ p ≤ upd s.low u _ x
    rw [hlo x (fun e => hxp' (e ▸ hu))]
    exact Nat.le_trans (hle p) (h.r3 x hx hxp p hp' hpx htop)
  case r4 => intro x hx hxp; exact Nat.lt_of_le_of_lt (hle x) (h.r4 x hx hxp)
  case r5 =>
    intro x hx
    show ∃ y, y ∈ s.stack ∧ s.idx y = upd s.low u (min (s.low u) (s.low v)) x ∧ G.reach x y
    by_cases e : x = u
    · subst e
      rw [hlu]
      by_cases hm : s.low x ≤ s.low v
      · rw [Nat.min_eq_left hm]; exact h.r5 x hx
      · rw [Nat.min_eq_right (by omega)]
        obtain ⟨y, hy, he, hr⟩ := h.r5 v hvs
        exact ⟨y, hy, he, (h.r1 x hu v hvs (by omega)).trans hr⟩
    · rw [hlo x e]; exact h.r5 x hx
  case r6 => intro x hx; exact Nat.le_trans (hle x) (h.r6 x hx)
  case e1 => exact h.e1
  case e2 => intro x k hk hx hy; exact Nat.le_trans (hle x) (h.e2 x k hk hx hy)
  case e3 => exact h.e3
  case c1 => exact h.c1
  case c0 => exact h.c0
  case c2 => exact h.c2
  case o1 => exact h.o1
  case o2 => exact h.o2
  case o3 => exact h.o3
  case o4 => exact h.o4

/-- The node that is topmost on the shortened path is its last. -/
theorem Inv.last_of (h : Inv G s) {ps : List Nat} {v : Nat} (hp : s.path = ps ++ [v]) {p x : Nat} (hps : p ∈ ps) (hx : s.idx v ≤ s.idx x) (htop : ∀ q, q ∈ ps → s.idx q < s.idx x → s.idx q ≤ s.idx p) : ∃ ps', ps = ps' ++ [p] := by
  have hne : ps ≠ [] := fun e => by rw [e] at hps; cases hps
  obtain ⟨ps', u, e⟩ : ∃ ps' u, ps = ps' ++ [u] := ⟨ps.dropLast, ps.getLast hne, (List.dropLast_concat_getLast hne).symm⟩
  have hus : u ∈ ps := by rw [e]; simp
  have htv := h.top hp
  have h1 := htop u hus (by have := htv u hus; omega)
  have h2 : s.idx p ≤ s.idx u := by
    rw [e] at hps
    simp only [List.mem_append, List.mem_singleton] at hps
    rcases hps with hps | rfl
    · have := h.psrt
      rw [hp, e, List.pairwise_append] at this
      have := (List.pairwise_append.1 this.1).2.2 p hps u (List.mem_singleton.2 rfl)
      omega
    · exact Nat.le_refl _
  have hu0 := (h.pos (h.pmem u (by rw [hp]; simp [hus]))).1
  have : u = p := h.inj u p hu0 (by omega)
  subst this
  exact ⟨ps', e⟩

/-- THE TOP OF THE PATH IS DONE AND STAYS ON THE STACK. -/
theorem Inv.keep (h : Inv G s) (ps : List Nat) (v : Nat) (hp : s.path = ps ++ [v]) (hd : s.ptr v = G.deg v) (hl : s.low v < s.idx v) (hu : ∀ ps' u, ps = ps' ++ [u] → s.low u ≤ s.low v) :
    Inv G { s with path := ps } := by
  have hsub : ∀ q, q ∈ ps → q ∈ s.path := fun q hq => by rw [hp]; simp [hq]
  have hvp : v ∈ s.path := by rw [hp]; simp
  have htv := h.top hp
  have hnot : ∀ w, w ∉ ps → w ≠ v → w ∉ s.path := by
    intro w h1 h2 h3
    rw [hp] at h3
    simp only [List.mem_append, List.mem_singleton] at h3
    rcases h3 with h3 | h3
    · exact h1 h3
    · exact h2 h3
  constructor
  case idxle => exact h.idxle
  case idxlt => exact h.idxlt
  case inj => exact h.inj
  case cnt => exact h.cnt
  case mem => exact h.mem
  case srt => exact h.srt
  case psrt => have := h.psrt; rw [hp, List.pairwise_append] at this; exact this.1
  case pmem => exact fun p hp' => h.pmem p (hsub p hp')
  case pdeg => exact h.pdeg
  case pun => exact h.pun
  case pfin =>
    intro w hw hwp
    by_cases e : w = v
    · subst e; exact hd
    · exact h.pfin w hw (hnot w hwp e)
  case r1 => exact fun p hp' => h.r1 p (hsub p hp')
  case r3 =>
    intro w hw hwp p hp' hpw htop
    have hw' : w ∈ s.stack := hw
    by_cases e : w = v
    · subst e
      obtain ⟨ps', e2⟩ := h.last_of hp hp' (Nat.le_refl _) htop
      exact hu ps' p e2
    · have hwn := hnot w hwp e
      by_cases hlt : s.idx v < s.idx w
      · have h1 : s.low v ≤ s.low w := h.r3 w hw' hwn v hvp hlt (by
          intro q hq _
          rw [hp] at hq
          simp only [List.mem_append, List.mem_singleton] at hq
          rcases hq with hq | rfl
          · exact Nat.le_of_lt (htv q hq)
          · exact Nat.le_refl _)
        obtain ⟨ps', e2⟩ := h.last_of hp hp' (Nat.le_of_lt hlt) htop
        exact Nat.le_trans (hu ps' p e2) h1
      · refine h.r3 w hw' hwn p (hsub p hp') hpw (fun q hq hqw => ?_)
        rw [hp] at hq
        simp only [List.mem_append, List.mem_singleton] at hq
        rcases hq with hq | rfl
        · exact htop q hq hqw
        · exact absurd hqw hlt
  case r4 =>
    intro w hw hwp
    by_cases e : w = v
    · subst e; exact hl
    · exact h.r4 w hw (hnot w hwp e)
  case r5 => exact h.r5
  case r6 => exact h.r6
  case e1 => exact h.e1
  case e2 => exact h.e2
  case e3 => exact h.e3
  case c1 => exact h.c1
  case c0 => exact h.c0
  case c2 => exact h.c2
  case o1 => exact h.o1
  case o2 => exact h.o2
  case o3 => exact h.o3
  case o4 => exact h.o4

/-- What closing a component does to 'comp'. -/
def shut (comp : Nat → Int) (c : Nat) (l : List Nat) : Nat → Int := fun w => if w ∈ l then (c : Int) else comp w

theorem shut_in {comp : Nat → Int} {c : Nat} {l : List Nat} {w : Nat} (h : w ∈ l) : shut comp c l w = c := by simp [shut, h]
theorem shut_out {comp : Nat → Int} {c : Nat} {l : List Nat} {w : Nat} (h : w ∉ l) : shut comp c l w = comp w := by simp [shut, h]

theorem nodup_rev {l : List Nat} (h : l.Nodup) : l.reverse.Nodup := by
  rw [List.Nodup, List.pairwise_reverse]
  exact h.imp fun h e => h e.symm

/-- THE TOP OF THE PATH IS DONE AND CLOSES ITS COMPONENT: all that lies on the stack from it on. -/
theorem Inv.close (h : Inv G s) (ps rest ab : List Nat) (v : Nat) (hp : s.path = ps ++ [v]) (hs : s.stack = rest ++ v :: ab) (hd : s.ptr v = G.deg v) (hl : s.low v = s.idx v) :
    Inv G { s with path := ps, stack := rest, comp := shut s.comp s.comps (v :: ab), comps := s.comps + 1, order := s.order ++ (ab.reverse ++ [v]) } := by
  have hsub : ∀ q, q ∈ ps → q ∈ s.path := fun q hq => by rw [hp]; simp [hq]
  have hvp : v ∈ s.path := by rw [hp]; simp
  have htv := h.top hp
  have hnot : ∀ w, w ∉ ps → w ≠ v → w ∉ s.path := by
    intro w h1 h2 h3
    rw [hp] at h3
    simp only [List.mem_append, List.mem_singleton] at h3
    rcases h3 with h3 | h3
    · exact h1 h3
    · exact h2 h3
  have hall : ∀ w, w ∈ s.stack ↔ (w ∈ rest ∨ w ∈ v :: ab) := by intro w; rw [hs]; simp only [List.mem_append]
  have hsrt := h.srt
  rw [hs, List.pairwise_append] at hsrt
  obtain ⟨hsr, hsa, hsx⟩ := hsrt
  have hab : ∀ w, w ∈ ab → s.idx v < s.idx w := (List.pairwise_cons.1 hsa).1
  have hrest : ∀ w, w ∈ rest → s.idx w < s.idx v := fun w hw => hsx w hw v (List.mem_cons_self ..)
  have hge : ∀ w, w ∈ v :: ab → s.idx v ≤ s.idx w := by
    intro w hw
    rcases List.mem_cons.1 hw with rfl | hw
    · exact Nat.le_refl _
    · exact Nat.le_of_lt (hab w hw)
  have hin : ∀ w, w ∈ s.stack → s.idx v ≤ s.idx w → w ∈ v :: ab := by
    intro w hw hle
    rcases (hall w).1 hw with hw | hw
    · have := hrest w hw; omega
    · exact hw
  have habn : ∀ w, w ∈ ab → w ∉ s.path := by
    intro w hw hwp
    rw [hp] at hwp
    simp only [List.mem_append, List.mem_singleton] at hwp
    have := hab w hw
    rcases hwp with hwp | rfl
    · have := htv w hwp; omega
    · omega
  have hlow : ∀ w, w ∈ v :: ab → s.idx v ≤ s.low w := by
    intro w hw
    rcases List.mem_cons.1 hw with rfl | hw
    · omega
    · have := h.r3 w ((hall w).2 (.inr (List.mem_cons_of_mem _ hw))) (habn w hw) v hvp (hab w hw) (by
        intro q hq _
        rw [hp] at hq
        simp only [List.mem_append, List.mem_singleton] at hq
        rcases hq with hq | rfl
        · exact Nat.le_of_lt (htv q hq)
        · exact Nat.le_refl _)
      omega
  have hback : ∀ m w, s.idx w ≤ m → w ∈ v :: ab → G.reach w v := by
    intro m
    induction m with
    | zero =>
      intro w hw hm
      have := (h.pos ((hall w).2 (.inr hm))).1
      omega
    | succ m ih =>
      intro w hw hm
      rcases List.mem_cons.1 hm with rfl | hm'
      · exact .refl _
      · have hws := (hall w).2 (.inr hm)
        obtain ⟨x, hx, he, hr⟩ := h.r5 w hws
        have h4 := h.r4 w hws (habn w hm')
        have hx' := hin x hx (by rw [he]; exact hlow w hm)
        exact hr.trans (ih x (by omega) hx')
  have hto : ∀ w, w ∈ v :: ab → G.reach v w := fun w hw => h.r1 v hvp w ((hall w).2 (.inr hw)) (hge w hw)
  have hstk : ∀ w, w ∈ v :: ab → s.idx w ≠ 0 ∧ s.comp w < 0 := fun w hw => h.pos ((hall w).2 (.inr hw))
  have hclosed : ∀ w, 0 ≤ s.comp w → w ∉ v :: ab := fun w hw hm => by have := (hstk w hm).2; omega
  have hrn : ∀ w, w ∈ rest → w ∉ v :: ab := fun w hw hm => by have := hrest w hw; have := hge w hm; omega
  constructor
  case idxle => exact h.idxle
  case idxlt => exact h.idxlt
  case inj => exact h.inj
  case cnt => exact h.cnt
  case mem =>
    intro w
    show w ∈ rest ↔ s.idx w ≠ 0 ∧ shut s.comp s.comps (v :: ab) w < 0
    by_cases hm : w ∈ v :: ab
    · rw [shut_in hm]
      exact ⟨fun hw => absurd hm (hrn w hw), fun hw => by omega⟩
    · rw [shut_out hm, ← h.mem w, hall w]
      exact ⟨.inl, fun hw => hw.resolve_right hm⟩
  case srt => exact hsr
  case psrt => have := h.psrt; rw [hp, List.pairwise_append] at this; exact this.1
  case pmem =>
    intro p hp'
    have h1 := h.pmem p (hsub p hp')
    have h2 := htv p hp'
    rcases (hall p).1 h1 with h3 | h3
    · exact h3
    · have := hge p h3; omega
  case pdeg => exact h.pdeg
  case pun => exact h.pun
  case pfin =>
    intro w hw hwp
    by_cases e : w = v
    · subst e; exact hd
    · exact h.pfin w hw (hnot w hwp e)
  case r1 => exact fun p hp' w hw => h.r1 p (hsub p hp') w ((hall w).2 (.inl hw))
  case r3 =>
    intro w hw hwp p hp' hpw htop
    have hw' : w ∈ rest := hw
    have hwv : w ≠ v := fun e => by have := hrest w hw'; rw [e] at this; omega
    refine h.r3 w ((hall w).2 (.inl hw)) (hnot w hwp hwv) p (hsub p hp') hpw (fun q hq hqw => ?_)
    rw [hp] at hq
    simp only [List.mem_append, List.mem_singleton] at hq
    rcases hq with hq | rfl
    · exact htop q hq hqw
    · have := hrest w hw'; omega
  case r4 =>
    intro w hw hwp
    have hw' : w ∈ rest := hw
    have hwv : w ≠ v := fun e => by have := hrest w hw'; rw [e] at this; omega
    exact h.r4 w ((hall w).2 (.inl hw)) (hnot w hwp hwv)
  case r5 =>
    intro w hw
    have hw' : w ∈ rest := hw
    have hws := (hall w).2 (.inl hw')
    obtain ⟨x, hx, he, hr⟩ := h.r5 w hws
    refine ⟨x, ?_, he, hr⟩
    have h6 := h.r6 w hws
    have := hrest w hw'
    rcases (hall x).1 hx with h3 | h3
    · exact h3
    · have := hge x h3; omega
  case r6 => exact fun w hw => h.r6 w ((hall w).2 (.inl hw))
  case e1 => exact h.e1
  case e2 => exact fun w k hk hw ht => h.e2 w k hk ((hall w).2 (.inl hw)) ((hall _).2 (.inl ht))
  case e3 =>
    intro w k hk hw
    show 0 ≤ shut s.comp s.comps (v :: ab) (G.E w k) ∧ shut s.comp s.comps (v :: ab) (G.E w k) ≤ shut s.comp s.comps (v :: ab) w
    have hw0 : 0 ≤ shut s.comp s.comps (v :: ab) w := hw
    by_cases hm : w ∈ v :: ab
    · rw [shut_in hm]
      have hws := (hall w).2 (.inr hm)
      by_cases ht : G.E w k ∈ v :: ab
      · rw [shut_in ht]; omega
      · rw [shut_out ht]
        have hi := h.e1 w k hk
        have hc : 0 ≤ s.comp (G.E w k) := by
          by_cases hc : s.comp (G.E w k) < 0
          · have hts := (h.mem _).2 ⟨hi, hc⟩
            have h2 := h.e2 w k hk hws hts
            have h3 := hlow w hm
            exact absurd (hin _ hts (by omega)) ht
          · omega
        have := (h.c1 (G.E w k)).1
        omega
    · rw [shut_out hm] at hw0 ⊢
      have h3 := h.e3 w k hk hw0
      rw [shut_out (hclosed _ h3.1)]
      exact h3
  case c1 =>
    intro w
    show shut s.comp s.comps (v :: ab) w < ((s.comps + 1 : Nat) : Int) ∧ -1 ≤ shut s.comp s.comps (v :: ab) w
    by_cases hm : w ∈ v :: ab
    · rw [shut_in hm]; omega
    · rw [shut_out hm]; have := h.c1 w; omega
  case c0 =>
    intro w hw
    have hw0 : 0 ≤ shut s.comp s.comps (v :: ab) w := hw
    by_cases hm : w ∈ v :: ab
    · exact (hstk w hm).1
    · rw [shut_out hm] at hw0; exact h.c0 w hw0
  case c2 =>
    intro a b ha hab'
    have ha0 : 0 ≤ shut s.comp s.comps (v :: ab) a := ha
    have hab0 : shut s.comp s.comps (v :: ab) a = shut s.comp s.comps (v :: ab) b := hab'
    by_cases hma : a ∈ v :: ab
    · by_cases hmb : b ∈ v :: ab
      · exact (hback (s.idx a) a (Nat.le_refl _) hma).trans (hto b hmb)
      · rw [shut_in hma, shut_out hmb] at hab0
        have := (h.c1 b).1
        omega
    · by_cases hmb : b ∈ v :: ab
      · rw [shut_out hma, shut_in hmb] at hab0
        have := (h.c1 a).1
        omega
      · rw [shut_out hma] at ha0
        rw [shut_out hma, shut_out hmb] at hab0
        exact h.c2 a b ha0 hab0
  case o1 =>
    intro w
    show w ∈ s.order ++ (ab.reverse ++ [v]) ↔ 0 ≤ shut s.comp s.comps (v :: ab) w
    by_cases hm : w ∈ v :: ab
    · rw [shut_in hm]
      have : w ∈ ab.reverse ++ [v] := by
        rcases List.mem_cons.1 hm with rfl | hm
        · simp
        · simp [hm]
      simp only [List.mem_append] at this ⊢
      exact ⟨fun _ => by omega, fun _ => .inr this⟩
    · rw [shut_out hm, ← h.o1 w]
      have : ¬ w ∈ ab.reverse ++ [v] := by
        intro hx
        apply hm
        simp only [List.mem_append, List.mem_reverse, List.mem_singleton] at hx
        rcases hx with hx | rfl
        · exact List.mem_cons_of_mem _ hx
        · exact List.mem_cons_self ..
      rw [List.mem_append]
      exact ⟨fun hx => hx.resolve_right this, .inl⟩
  case o2 =>
    show (s.order ++ (ab.reverse ++ [v])).Pairwise _
    have hmem : ∀ w, w ∈ ab.reverse ++ [v] → w ∈ v :: ab := by
      intro w hx
      simp only [List.mem_append, List.mem_reverse, List.mem_singleton] at hx
      rcases hx with hx | rfl
      · exact List.mem_cons_of_mem _ hx
      · exact List.mem_cons_self ..
    rw [List.pairwise_append]
    refine ⟨h.o2.imp_of_mem ?_, List.pairwise_of_forall_mem_list ?_, ?_⟩
    · intro a b ha hb hab'
      show shut s.comp s.comps (v :: ab) a ≤ shut s.comp s.comps (v :: ab) b
      rw [shut_out (hclosed a ((h.o1 a).1 ha)), shut_out (hclosed b ((h.o1 b).1 hb))]; exact hab'
    · intro a ha b hb
      show shut s.comp s.comps (v :: ab) a ≤ shut s.comp s.comps (v :: ab) b
      rw [shut_in (hmem a ha), shut_in (hmem b hb)]; exact Int.le_refl _
    · intro a ha b hb
      show shut s.comp s.comps (v :: ab) a ≤ shut s.comp s.comps (v :: ab) b
      rw [shut_out (hclosed a ((h.o1 a).1 ha)), shut_in (hmem b hb)]
      have := (h.c1 a).1
      omega
  case o3 =>
    show (s.order ++ (ab.reverse ++ [v])).Nodup
    have hnd : (v :: ab).Nodup := hsa.imp (fun {a b} hlt => fun e => by rw [e] at hlt; omega)
    have hnd2 := List.nodup_cons.1 hnd
    rw [List.nodup_append, List.nodup_append]
    refine ⟨h.o3, ⟨nodup_rev hnd2.2, by simp, ?_⟩, ?_⟩
    · intro a ha b hb e
      simp at hb ha
      rw [e, hb] at ha
      exact hnd2.1 ha
    · intro a ha b hb e
      subst e
      have : a ∈ v :: ab := by
        simp only [List.mem_append, List.mem_reverse, List.mem_singleton] at hb
        rcases hb with hb | rfl
        · exact List.mem_cons_of_mem _ hb
        · exact List.mem_cons_self ..
      exact hclosed a ((h.o1 a).1 ha) this
  case o4 =>
    show s.comps + 1 ≤ (s.order ++ (ab.reverse ++ [v])).length
    have := h.o4
    simp
    omega

/-- Where the path is empty, so is the stack. -/
theorem Inv.stack_nil (h : Inv G s) (hp : s.path = []) : s.stack = [] := by
  have key : ∀ m w, s.idx w ≤ m → w ∈ s.stack → False := by
    intro m
    induction m with
    | zero => intro w hw hm; have := (h.pos hm).1; omega
    | succ m ih =>
      intro w hw hm
      have h4 := h.r4 w hm (by rw [hp]; simp)
      obtain ⟨x, hx, he, _⟩ := h.r5 w hm
      exact ih x (by omega) hx
  cases hs : s.stack with
  | nil => rfl
  | cons w l => exact absurd (key (s.idx w) w (Nat.le_refl _) (by rw [hs]; simp)) id

theorem Inv.stack_len (h : Inv G s) : s.stack.length ≤ G.n := by
  have hnd : s.stack.Nodup := h.srt.imp (fun {a b} hlt => fun e => by rw [e] at hlt; omega)
  have := hnd.length_le_of_subset (l₂ := List.range G.n) (fun w hw => List.mem_range.2 (h.idxlt w (h.pos hw).1))
  simpa using this

theorem Inv.path_len (h : Inv G s) : s.path.length ≤ G.n := by
  have hnd : s.path.Nodup := h.psrt.imp (fun {a b} hlt => fun e => by rw [e] at hlt; omega)
  have := hnd.length_le_of_subset (l₂ := List.range G.n) (fun w hw => List.mem_range.2 (h.idxlt w (h.pos (h.pmem w hw)).1))
  simpa using this

theorem Inv.order_len (h : Inv G s) : s.order.length ≤ G.n := by
  have := h.o3.length_le_of_subset (l₂ := List.range G.n) (fun w hw => List.mem_range.2 (h.idxlt w (h.c0 w ((h.o1 w).1 hw))))
  simpa using this

theorem Inv.found_le (h : Inv G s) : s.found ≤ G.n := by
  rw [h.cnt]
  exact Nat.le_trans (List.length_filter_le ..) (by simp)

theorem Inv.low_le (h : Inv G s) {w : Nat} (hw : w ∈ s.stack) : s.low w ≤ G.n := Nat.le_trans (h.r6 w hw) (Nat.le_trans (h.idxle w) h.found_le)

theorem Inv.comps_le (h : Inv G s) : s.comps ≤ G.n := Nat.le_trans h.o4 h.order_len

/-- How many rounds may still come. -/
def rest (G : Gr) (s : St) : Nat := ((List.range G.n).map fun w => G.deg w - s.ptr w).sum + 2 * (G.n - s.found) + s.path.length

theorem sum_upd (n : Nat) (d p : Nat → Nat) (v : Nat) (hv : v < n) (hd : p v < d v) : ((List.range n).map fun w => d w - upd p v (p v + 1) w).sum + 1 = ((List.range n).map fun w => d w - p w).sum := by
  induction n with
  | zero => omega
  | succ n ih =>
    rw [List.range_succ, List.map_append, List.map_append, List.sum_append, List.sum_append]
    by_cases e : v = n
    · subst e
      have : (List.range v).map (fun w => d w - upd p v (p v + 1) w) = (List.range v).map fun w => d w - p w := by
        apply List.map_congr_left
        intro w hw
        rw [upd_other _ _ _ _ (by have := List.mem_range.1 hw; omega)]
      rw [this]
      simp [upd_same]
      omega
    · have := ih (by omega)
      simp only [List.map_cons, List.map_nil, List.sum_cons, List.sum_nil, upd_other p v (p v + 1) n (fun x => e x.symm)]
      omega

/-- WHAT THE ALGORITHM HANDS BACK. -/
structure Done (G : Gr) (comp : Nat → Int) (comps : Nat) (order : List Nat) : Prop where
  lo : ∀ w, w < G.n → 0 ≤ comp w ∧ comp w < comps
  le : comps ≤ G.n
  down : ∀ w k, w < G.n → k < G.deg w → comp (G.E w k) ≤ comp w
  same : ∀ a b, a < G.n → comp a = comp b → G.reach a b
  mem : ∀ w, w ∈ order ↔ w < G.n
  len : order.length ≤ G.n
  srt : order.Pairwise fun a b => comp a ≤ comp b

theorem Inv.done (h : Inv G s) (hp : s.path = []) (hall : ∀ w, w < G.n → s.idx w ≠ 0) : Done G s.comp s.comps s.order := by
  have hst := h.stack_nil hp
  have hc : ∀ w, w < G.n → 0 ≤ s.comp w := by
    intro w hw
    by_cases e : s.comp w < 0
    · have := (h.mem w).2 ⟨hall w hw, e⟩
      rw [hst] at this
      cases this
    · omega
  refine ⟨fun w hw => ⟨hc w hw, (h.c1 w).1⟩, h.comps_le, fun w k hw hk => ?_, fun a b ha he => h.c2 a b (hc a ha) he, fun w => ⟨fun hw => h.idxlt w (h.c0 w ((h.o1 w).1 hw)), fun hw => (h.o1 w).2 (hc w hw)⟩, h.order_len, h.o2⟩
  exact (h.e3 w k (by rw [h.pfin w (hall w hw) (by rw [hp]; simp)]; exact hk) (hc w hw)).2
end

end Go.Proofs.Qxb6602016a.Tar
