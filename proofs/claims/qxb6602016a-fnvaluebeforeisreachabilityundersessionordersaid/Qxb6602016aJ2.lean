/-
  THE WALKS of seat b6602016a: the inner loop of stronglyConnected, whole.
-/
import Derived.Test.Qxb6602016aH1
import Derived.Test.Qxb6602016aH2
import Derived.Test.Qxb6602016aH3
import Derived.Test.Qxb6602016aH7
import Derived.Test.Qxb6602016aJ1
namespace Go.Proofs.Qxb6602016a
open Go.RowKit Tar
set_option linter.unusedVariables false

theorem rest_bump (G : Gr) (s : St) (v : Nat) (low : Nat → Nat) (hv : v < G.n) (hd : s.ptr v < G.deg v) : rest G { s with ptr := upd s.ptr v (s.ptr v + 1), low := low } + 1 = rest G s := by
  have := sum_upd G.n G.deg s.ptr v hv hd
  unfold rest
  show ((List.range G.n).map fun w => G.deg w - upd s.ptr v (s.ptr v + 1) w).sum + 2 * (G.n - s.found) + s.path.length + 1 = _
  omega

def foundSt (s : St) (v u : Nat) : St := { s with idx := upd s.idx u (s.found + 1), low := upd s.low u (s.found + 1), ptr := upd s.ptr v (s.ptr v + 1), stack := s.stack ++ [u], path := s.path ++ [u], found := s.found + 1 }

theorem rest_find (G : Gr) (s : St) (v u : Nat) (hv : v < G.n) (hd : s.ptr v < G.deg v) (hf : s.found + 1 ≤ G.n) : rest G (foundSt s v u) < rest G s := by
  have := sum_upd G.n G.deg s.ptr v hv hd
  unfold rest
  show ((List.range G.n).map fun w => G.deg w - upd s.ptr v (s.ptr v + 1) w).sum + 2 * (G.n - (s.found + 1)) + (s.path ++ [u]).length < _
  rw [List.length_append, List.length_singleton]
  omega

theorem rest_pop (G : Gr) (s s' : St) (ps : List Nat) (v : Nat) (hp : s.path = ps ++ [v]) (hp' : s'.path = ps) (h1 : s'.ptr = s.ptr) (h2 : s'.found = s.found) : rest G s' < rest G s := by
  unfold rest
  rw [hp, hp', h1, h2, List.length_append, List.length_singleton]
  omega

theorem Mem.head {W : World} {G : Gr} {i : Nat} {s : St} {aS : Option Addr} {lS cS : Nat} {aP : Option Addr} {lP cP : Nat} {aO : Option Addr} {lO cO : Nat} {wr : World} (h : Mem W G i s aS lS cS aP lP cP aO lO cO wr) {ps : List Nat} {v : Nat} (hp : s.path = ps ++ [v]) :
    ∃ g, aP = some ⟨g, 0, none⟩ ∧ lP = ps.length + 1 ∧ W.heap.size + 3 ≤ g ∧ ps.length + 1 ≤ cP ∧ wr.cell? ⟨g, ps.length * 2, none⟩ = some (iv v) ∧ wr.cell? ⟨g, ps.length * 2 + 1, none⟩ = some (iv (s.ptr v)) ∧ ∀ j, wr.frozen? ⟨g, j, none⟩ = false := by
  obtain ⟨g, cap, hv, hg, t1, t2, t3⟩ := h.tm.top hp
  have hc := own_cap h.tm.op
  simp only [Value.slice.injEq] at hv
  obtain ⟨rfl, rfl, rfl⟩ := hv
  exact ⟨g, rfl, rfl, hg, hc.2, t1, t2, t3⟩

/-- What is closed and what lies on the stack: no more than there are nodes. -/
theorem Inv.both_len {G : Gr} {s : St} (h : Inv G s) : s.order.length + s.stack.length ≤ G.n := by
  have hnd : s.stack.Nodup := h.srt.imp (fun {a b} hlt => fun e => by rw [e] at hlt; omega)
  have hall : (s.order ++ s.stack).Nodup := by
    rw [List.nodup_append]
    refine ⟨h.o3, hnd, ?_⟩
    intro a ha b hb e
    subst e
    have h1 := (h.o1 a).1 ha
    have h2 := (h.pos hb).2
    omega
  have := hall.length_le_of_subset (l₂ := List.range G.n) (fun w hw => by
    rcases List.mem_append.1 hw with hw | hw
    · exact List.mem_range.2 (h.idxlt w (h.c0 w ((h.o1 w).1 hw)))
    · exact List.mem_range.2 (h.idxlt w (h.pos hw).1))
  simpa using this

/-- The step: a component is closed. -/
theorem close_step (W : World) (a : Option Addr) (c : Nat) (G : Gr) (i : Nat) (hn : G.n ≤ 512) (s : St) (ps : List Nat) (v : Nat) (hp : s.path = ps ++ [v]) (hd : s.ptr v = G.deg v) (hl : s.low v = s.idx v) (hinv : Inv G s) (hfd : ∀ x, x < i + 1 → s.idx x ≠ 0)
    (aS : Option Addr) (lS cS : Nat) (aP : Option Addr) (lP cP : Nat) (aO : Option Addr) (lO cO : Nat) (hlp : lP = ps.length) (t : Array Value) (wz : World) (Q Q2 : Exit → Act → World → Prop)
    (hF : Fc W a G.n c i s.comps s.found v (.slice aO lO cO) (.slice aS lS cS) (.slice aP lP cP) t) (hT : Tm W.heap.size G.n { s with path := ps } (.slice aS lS cS) (.slice aP lP cP) (.slice aO lO cO) wz) (hB : Below W.heap.size W wz)
    (gk : Nat) (hre : rest G s ≤ gk)
    (hcont : ∀ t2 w2 vo' vs' vp', Fc W a G.n c i s.comps s.found v vo' vs' vp' t2 → (∀ t3, Fi W a G.n c i (s.comps + 1) s.found vo' vs' vp' t3 → Q .normal ⟨t3, []⟩ w2) → Q2 (.exit 6) ⟨t2, []⟩ w2)
    (hQ : ∀ t' w' gk', gk' < gk → At W a c G i gk' t' w' → Q .normal ⟨t', []⟩ w') :
    Code.wp Try.prog (.loop ((loopsOf (Try.f25.body.getD .skip)).getD 3 .skip)) Q2 ⟨t, []⟩ wz := by
  have hvs : v ∈ s.stack := hinv.pmem v (by rw [hp]; simp)
  obtain ⟨rst, ab, hst⟩ := List.append_of_mem hvs
  have hnd : s.stack.Nodup := hinv.srt.imp (fun {a b} hlt => fun e => by rw [e] at hlt; omega)
  have hbl : s.order.length + s.stack.length ≤ 512 := Nat.le_trans (Inv.both_len hinv) hn
  refine shut_loop W a G.n c i s.found v (.slice aP lP cP) { s with path := ps } rst ab aS lS cS aO lO cO t wz Q2 hn hst hnd (fun y hy => hinv.idxlt y (hinv.pos hy).1) hbl hF hT hB ?_
  intro t' w' aS' lS' cS' aO' lO' cO' hF' hT' hB'
  refine hcont t' w' _ _ _ hF' (fun t3 hFi => ?_)
  have hc := hinv.close ps rst ab v hp hst hd hl
  refine hQ t3 w' _ (Nat.lt_of_lt_of_le (rest_pop G s { s with path := ps, stack := rst, comp := shut s.comp s.comps (v :: ab), comps := s.comps + 1, order := s.order ++ (ab.reverse ++ [v]) } ps v hp rfl rfl rfl) hre)
    ⟨{ s with path := ps, stack := rst, comp := shut s.comp s.comps (v :: ab), comps := s.comps + 1, order := s.order ++ (ab.reverse ++ [v]) }, aS', lS', cS', aP, lP, cP, aO', lO', cO', hFi, ⟨?_, hc, (own_cap hT'.os).1, hlp, (own_cap hT'.oo).1, hfd, hB'⟩, Nat.le_refl _⟩
  exact ⟨hT'.rc, hT'.ri, hT'.rl, hT'.os, hT'.op, hT'.oo, hT'.sp, hT'.so, hT'.po⟩

theorem Tm.drawn {H n : Nat} {s : St} {vs vp vo : Value} {w w' : World} (h : Tm H n s vs vp vo w) (hd : Drawn w w') : Tm H n s vs vp vo w' := by
  obtain ⟨m, rfl⟩ := hd
  exact h.drewN m

theorem Below.drawn {b : Nat} {W w w' : World} (h : Below b W w) (hd : Drawn w w') : Below b W w' := by
  obtain ⟨m, rfl⟩ := hd
  exact below_drewN h m

set_option maxHeartbeats 1000000 in
/-- One turn: an edge is looked at. -/
theorem turn_edge (W : World) (a : Option Addr) (c : Nat) (G : Gr) (i : Nat) (A : Nat → Option Addr) (C : Nat → Nat) (Z : Nat → Nat → Int) (hn : G.n ≤ 512) (hS : Succ W a G.n G.deg A C Z) (hE : ∀ i, i < G.n → ∀ k, k < G.deg i → Z i k = (G.E i k : Int) ∧ G.E i k < G.n)
    (s : St) (aS : Option Addr) (lS cS : Nat) (aP : Option Addr) (lP cP : Nat) (aO : Option Addr) (lO cO : Nat) (t : Array Value) (wr : World) (hF : Fi W a G.n c i s.comps s.found (.slice aO lO cO) (.slice aS lS cS) (.slice aP lP cP) t) (hm : Mem W G i s aS lS cS aP lP cP aO lO cO wr)
    (gk : Nat) (hre : rest G s ≤ gk) (ps : List Nat) (v : Nat) (hp : s.path = ps ++ [v]) (hed : s.ptr v < G.deg v) (Q : Exit → Act → World → Prop) (hQ : ∀ t' w' gk', gk' < gk → At W a c G i gk' t' w' → Q .normal ⟨t', []⟩ w') :
    Code.wp Try.prog ((loopsOf (Try.f25.body.getD .skip)).getD 2 .skip) Q ⟨t, []⟩ wr := by
  obtain ⟨g, rfl, rfl, hg, hcP, t1, t2, t3⟩ := hm.head hp
  have hvp : v ∈ s.path := by rw [hp]; simp
  have hvs : v ∈ s.stack := hm.inv.pmem v hvp
  have hv0 := hm.inv.pos hvs
  have hvk : v < G.n := hm.inv.idxlt v hv0.1
  obtain ⟨b0, o0, rfl, hc0⟩ := hS.top (by omega)
  have gS := cell_later hm.bel (hc0 v hvk)
  obtain ⟨bA, oA, hA, hcA⟩ := hS.row v hvk (by omega)
  have gE := cell_later hm.bel (hcA _ hed)
  obtain ⟨hz, huk⟩ := hE v hvk _ hed
  simp only [hz] at gE
  simp only [hA] at gS
  have hdv := hS.deg v hvk
  obtain ⟨x, rfl⟩ := hF.lit
  have hnd : s.path.Nodup := hm.inv.psrt.imp (fun {a b} hlt => fun e => by rw [e] at hlt; omega)
  have hLk : ps.length + 1 ≤ G.n := by have := hm.inv.path_len; rw [hp] at this; simpa using this
  have hedge : G.edge v (G.E v (s.ptr v)) := ⟨hvk, s.ptr v, hed, rfl⟩
  have hfl := hm.inv.found_le
  have hbump : ∀ q, Tm W.heap.size G.n { s with ptr := upd s.ptr v (s.ptr v + 1) } (.slice aS lS cS) (.slice (some ⟨g, 0, none⟩) (ps.length + 1) cP) (.slice aO lO cO) ((wr.drewN q).setCell ⟨g, ps.length * 2 + 1, none⟩ (.int .i64 ((s.ptr v : Int) + 1))) := by
    intro q
    have h1 := (hm.tm.drewN q).bump hnd hp rfl
    have e : iv (s.ptr v + 1) = .int .i64 ((s.ptr v : Int) + 1) := by simp [iv]
    rw [e] at h1
    exact h1
  have hbb : ∀ q, Below W.heap.size W ((wr.drewN q).setCell ⟨g, ps.length * 2 + 1, none⟩ (.int .i64 ((s.ptr v : Int) + 1))) := fun q => (below_drewN hm.bel q).setCell (by show W.heap.size ≤ g; omega) _
  by_cases h0 : s.idx (G.E v (s.ptr v)) = 0
  · have hinv := hm.inv.find (G.E v (s.ptr v)) huk h0 (upd s.ptr v (s.ptr v + 1)) (by
        intro y
        by_cases e : y = v
        · subst e; rw [upd_same]; omega
        · rw [upd_other _ _ _ _ e]; exact hm.inv.pdeg y) (by
        intro y hy
        have e : y ≠ v := fun e => hv0.1 (e ▸ hy)
        rw [upd_other _ _ _ _ e]; exact hm.inv.pun y hy) (by
        intro y hy hyp
        have e : y ≠ v := fun e => hyp (e ▸ hvp)
        rw [upd_other _ _ _ _ e]; exact hm.inv.pfin y hy hyp) (by
        intro y j hj
        by_cases e : y = v
        · subst e
          rw [upd_same] at hj
          by_cases e2 : j = s.ptr y
          · subst e2; exact .inr ⟨rfl, hv0⟩
          · exact .inl (by omega)
        · rw [upd_other _ _ _ _ e] at hj; exact .inl hj) (by
        intro p hp'
        have hle : s.idx p ≤ s.idx v := by
          rw [hp] at hp'
          rcases List.mem_append.1 hp' with h1 | h1
          · exact Nat.le_of_lt (hm.inv.top hp p h1)
          · simp at h1; subst h1; exact Nat.le_refl _
        exact (hm.inv.r1 p hp' v hvs hle).trans (.one hedge))
    have hf1 : s.found + 1 ≤ G.n := hinv.found_le
    have hvu : G.E v (s.ptr v) ≠ v := fun e => hv0.1 (e ▸ h0)
    have hI := hm.tm.ri.cell huk
    simp only [h0] at hI
    refine r_find W b0 o0 G.n c i s.comps s.found (s.found + 1) (.slice aO lO cO) aS lS cS g ps.length cP v (s.ptr v) (G.deg v) bA oA (C v) (G.E v (s.ptr v)) { s with idx := upd s.idx (G.E v (s.ptr v)) (s.found + 1), low := upd s.low (G.E v (s.ptr v)) (s.found + 1), ptr := upd s.ptr v (s.ptr v + 1), found := s.found + 1 } x wr Q
      hn hLk hvk huk hed hdv hg (by omega) (by have := hm.inv.stack_len; have := hm.ls; omega) (by omega) (s.low (G.E v (s.ptr v))) t1 t2 (t3 _) gS gE hI (hm.tm.rl.cell huk) (hm.tm.ri.frozen _) (hm.tm.rl.frozen _) (hid hm.bel) (hid ?_) (hid hm.ls) (hid (by show ps.length + 1 = s.path.length; rw [hp]; simp)) (hid ?_) (hid ?_)
    · show upd s.ptr v (s.ptr v + 1) (G.E v (s.ptr v)) = 0
      rw [upd_other _ _ _ _ hvu]; exact hm.inv.pun _ h0
    · intro q
      have h1 := ((hbump q).setIdx (G.E v (s.ptr v)) (s.found + 1)).setLow (G.E v (s.ptr v)) (s.found + 1)
      exact ⟨h1.rc, h1.ri, h1.rl, h1.os, h1.op, h1.oo, h1.sp, h1.so, h1.po⟩
    · intro t' w' g1 c1 g2 c2 hF' hT' hB'
      refine hQ t' w' _ (Nat.lt_of_lt_of_le (rest_find G s v (G.E v (s.ptr v)) hvk hed hf1) hre) ⟨foundSt s v (G.E v (s.ptr v)), _, _, _, _, _, _, _, _, _, hF', ⟨hT', hinv, ?_, ?_, hm.lo, ?_, hB'⟩, Nat.le_refl _⟩
      · show lS + 1 = (s.stack ++ [_]).length
        rw [hm.ls]; simp
      · show ps.length + 1 + 1 = (s.path ++ [_]).length
        rw [hp]; simp
      · intro y hy
        show upd s.idx _ _ y ≠ 0
        by_cases e : y = G.E v (s.ptr v)
        · rw [e, upd_same]; omega
        · rw [upd_other _ _ _ _ e]; exact hm.fd y hy
  · have hlow := hm.inv.low_le hvs
    have hil := hm.inv.idxle (G.E v (s.ptr v))
    by_cases hcu : s.comp (G.E v (s.ptr v)) < 0
    · refine r_low W b0 o0 G.n c i s.comps s.found (.slice aO lO cO) (.slice aS lS cS) g ps.length cP v (s.ptr v) (G.deg v) bA oA (C v) (G.E v (s.ptr v)) (s.idx (G.E v (s.ptr v))) (s.low v) (s.comp (G.E v (s.ptr v))) x wr Q
        hn hLk hvk huk hed hdv hg (by omega) (by omega) (by omega) hcu t1 t2 (t3 _) gS gE (hm.tm.ri.cell huk) (hm.tm.rc.cell huk) (hm.tm.rl.cell hvk) (hm.tm.rl.frozen _) (hid ?_)
      intro t' m z hz hF'
      obtain ⟨l', hl'⟩ : ∃ l', l' = if s.idx (G.E v (s.ptr v)) < s.low v then s.idx (G.E v (s.ptr v)) else s.low v := ⟨_, rfl⟩
      obtain rfl : z = (l' : Int) := by rw [hz, hl']; split <;> rfl
      have hinv := hm.inv.look v l' hvp hed h0 (by rw [hl']; split <;> omega) (by intro _; rw [hl']; split <;> omega) (by rw [hl']; split; exact .inr ⟨hcu, rfl⟩; exact .inl rfl)
      have hrb := rest_bump G s v (upd s.low v l') hvk hed
      refine hQ t' _ (rest G { s with ptr := upd s.ptr v (s.ptr v + 1), low := upd s.low v l' }) (by omega) ⟨{ s with ptr := upd s.ptr v (s.ptr v + 1), low := upd s.low v l' }, _, _, _, _, _, _, _, _, _, hF', ⟨?_, hinv, hm.ls, hm.lp, hm.lo, hm.fd, ?_⟩, Nat.le_refl _⟩
      · have h1 := ((hbump m).setLow v l').drew
        exact ⟨h1.rc, h1.ri, h1.rl, h1.os, h1.op, h1.oo, h1.sp, h1.so, h1.po⟩
      · exact below_drewN ((hbb m).setCell (p := ⟨W.heap.size + 2, v, none⟩) (by simp) (iv l')) 1
    · refine r_closed W b0 o0 G.n c i s.comps s.found (.slice aO lO cO) (.slice aS lS cS) g ps.length cP v (s.ptr v) (G.deg v) bA oA (C v) (G.E v (s.ptr v)) (s.idx (G.E v (s.ptr v))) (s.comp (G.E v (s.ptr v))) x wr Q
        hn hLk hvk huk hed hdv hg (by omega) (by omega) (by omega) t1 t2 (t3 _) gS gE (hm.tm.ri.cell huk) (hm.tm.rc.cell huk) (hid ?_)
      intro t' m hF'
      have hinv := hm.inv.look v (s.low v) hvp hed h0 (Nat.le_refl _) (fun h => absurd h hcu) (.inl rfl)
      have hself : upd s.low v (s.low v) = s.low := by
        funext y
        by_cases e : y = v
        · rw [e, upd_same]
        · rw [upd_other _ _ _ _ e]
      rw [hself] at hinv
      have hrb := rest_bump G s v s.low hvk hed
      exact hQ t' _ (rest G { s with ptr := upd s.ptr v (s.ptr v + 1), low := s.low }) (by omega) ⟨{ s with ptr := upd s.ptr v (s.ptr v + 1), low := s.low }, _, _, _, _, _, _, _, _, _, hF', ⟨hbump m, hinv, hm.ls, hm.lp, hm.lo, hm.fd, hbb m⟩, Nat.le_refl _⟩

set_option maxHeartbeats 1000000 in
/-- One turn: the top of the path is taken off. -/
theorem turn_pop (W : World) (a : Option Addr) (c : Nat) (G : Gr) (i : Nat) (A : Nat → Option Addr) (C : Nat → Nat) (Z : Nat → Nat → Int) (hn : G.n ≤ 512) (hS : Succ W a G.n G.deg A C Z)
    (s : St) (aS : Option Addr) (lS cS : Nat) (aP : Option Addr) (lP cP : Nat) (aO : Option Addr) (lO cO : Nat) (t : Array Value) (wr : World) (hF : Fi W a G.n c i s.comps s.found (.slice aO lO cO) (.slice aS lS cS) (.slice aP lP cP) t) (hm : Mem W G i s aS lS cS aP lP cP aO lO cO wr)
    (gk : Nat) (hre : rest G s ≤ gk) (ps : List Nat) (v : Nat) (hp : s.path = ps ++ [v]) (hed : ¬ s.ptr v < G.deg v) (Q : Exit → Act → World → Prop) (hQ : ∀ t' w' gk', gk' < gk → At W a c G i gk' t' w' → Q .normal ⟨t', []⟩ w') :
    Code.wp Try.prog ((loopsOf (Try.f25.body.getD .skip)).getD 2 .skip) Q ⟨t, []⟩ wr := by
  obtain ⟨g, rfl, rfl, hg, hcP, t1, t2, t3⟩ := hm.head hp
  have hvp : v ∈ s.path := by rw [hp]; simp
  have hvs : v ∈ s.stack := hm.inv.pmem v hvp
  have hv0 := hm.inv.pos hvs
  have hvk : v < G.n := hm.inv.idxlt v hv0.1
  obtain ⟨b0, o0, rfl, hc0⟩ := hS.top (by omega)
  have gS := cell_later hm.bel (hc0 v hvk)
  have hdv := hS.deg v hvk
  have hpd : s.ptr v = G.deg v := by have := hm.inv.pdeg v; omega
  obtain ⟨x, rfl⟩ := hF.lit
  have hLk : ps.length + 1 ≤ G.n := by have := hm.inv.path_len; rw [hp] at this; simpa using this
  have hlow := hm.inv.low_le hvs
  have hr6 := hm.inv.r6 v hvs
  have hcs := hm.inv.comps_le
  have hpop := hm.tm.popPath hp
  rcases List.eq_nil_or_concat ps with rfl | ⟨ps', u, rfl⟩
  · by_cases hk : s.low v < s.idx v
    · refine r_keep0 W b0 o0 G.n c i s.comps s.found (.slice aO lO cO) (.slice aS lS cS) g cP v (s.ptr v) (G.deg v) (C v) (s.low v) (s.idx v) (A v) x wr Q hn hvk hed hdv hg hcP (by omega) t1 t2 gS (hm.tm.ri.cell hvk) (hm.tm.rl.cell hvk) (hid ?_)
      intro t' wz hD hF'
      have hinv := hm.inv.keep [] v hp hpd hk (by intro ps' u e; simp at e)
      exact hQ t' wz _ (Nat.lt_of_lt_of_le (rest_pop G s { s with path := [] } [] v hp rfl rfl rfl) hre) ⟨{ s with path := [] }, _, _, _, _, _, _, _, _, _, hF', ⟨hpop.drawn hD, hinv, hm.ls, rfl, hm.lo, hm.fd, Below.drawn hm.bel hD⟩, Nat.le_refl _⟩
    · have hlv : s.low v = s.idx v := by omega
      have hLw := hm.tm.rl.cell hvk
      rw [hlv] at hLw
      refine r_close0 W b0 o0 G.n c i s.comps s.found (.slice aO lO cO) (.slice aS lS cS) g cP v (s.ptr v) (G.deg v) (C v) (s.idx v) (A v) x wr Q hn hvk hed hdv hg hcP (by omega) t1 t2 gS (hm.tm.ri.cell hvk) hLw (hid ?_)
      intro t' wz Q2 hD hFc hcont
      exact close_step W (some ⟨b0, o0, none⟩) c G i hn s [] v hp hpd hlv hm.inv hm.fd aS lS cS _ _ cP aO lO cO rfl t' wz Q Q2 hFc (hpop.drawn hD) (Below.drawn hm.bel hD) gk hre hcont hQ
  · rw [List.concat_eq_append] at hp hLk hpop hcP t1 t2
    rw [List.concat_eq_append] at hF hm
    have hlen : (ps' ++ [u]).length = ps'.length + 1 := by simp
    rw [hlen] at hLk hcP t1 t2 hF hm hpop
    rw [List.concat_eq_append, hlen]
    have hup : u ∈ s.path := by rw [hp]; simp
    have hus : u ∈ s.stack := hm.inv.pmem u hup
    have huk : u < G.n := hm.inv.idxlt u (hm.inv.pos hus).1
    have huv : s.idx u < s.idx v := hm.inv.top hp u (by simp)
    have hne : ¬ v = u := fun e => by rw [e] at huv; omega
    have tu : wr.cell? ⟨g, ps'.length * 2, none⟩ = some (iv u) := hm.tm.below hp rfl
    have hlu := hm.inv.low_le hus
    have hrlu := hm.tm.rl.cell huk
    obtain ⟨hinv1, hmin⟩ := hm.inv.hand ps' u v hp
    -- the state with low handed down
    obtain ⟨s1, hs1⟩ : ∃ s1 : St, s1 = { s with low := upd s.low u (min (s.low u) (s.low v)) } := ⟨_, rfl⟩
    have hmz : ∀ z : Int, z = (if s.low v < s.low u then (s.low v : Int) else (s.low u : Int)) → z = ((min (s.low u) (s.low v) : Nat) : Int) := by
      intro z hz
      rw [hz]
      split <;> omega
    have hT1 : ∀ m z wz, z = (if s.low v < s.low u then (s.low v : Int) else (s.low u : Int)) → Drawn ((wr.drewN m).setCell ⟨W.heap.size + 2, u, none⟩ (.int .i64 z)) wz → Tm W.heap.size G.n { s1 with path := ps' ++ [u] } (.slice aS lS cS) (.slice (some ⟨g, 0, none⟩) (ps'.length + 1) cP) (.slice aO lO cO) wz ∧ Below W.heap.size W wz := by
      intro m z wz hz hD
      rw [hmz z hz] at hD
      have h1 := ((hpop.drewN m).setLow u (min (s.low u) (s.low v))).drawn hD
      refine ⟨?_, Below.drawn ((below_drewN hm.bel m).setCell (by simp) _) hD⟩
      rw [hs1]
      exact ⟨h1.rc, h1.ri, h1.rl, h1.os, h1.op, h1.oo, h1.sp, h1.so, h1.po⟩
    have hlv1 : s1.low v = s.low v := by rw [hs1]; exact upd_other _ _ _ _ hne
    have hp1 : s1.path = ps' ++ [u] ++ [v] := by rw [hs1]; exact hp
    have hre1 : rest G s1 ≤ gk := by rw [hs1]; exact hre
    have hI1 : Inv G s1 := by rw [hs1]; exact hinv1
    have e1 : s1.idx = s.idx ∧ s1.ptr = s.ptr ∧ s1.stack = s.stack ∧ s1.order = s.order ∧ s1.comps = s.comps ∧ s1.found = s.found := by rw [hs1]; exact ⟨rfl, rfl, rfl, rfl, rfl, rfl⟩
    obtain ⟨e1, e2, e3, e4, e5, e6⟩ := e1
    by_cases hk : s.low v < s.idx v
    · refine r_keep1 W b0 o0 G.n c i s.comps s.found (.slice aO lO cO) (.slice aS lS cS) g ps'.length cP v (s.ptr v) (G.deg v) (C v) (s.low v) (s.idx v) u (s.low u) (A v) x wr Q hn hvk hed hdv hg hcP hLk (by omega) (by omega) huk hne (fun e => hne e.symm) (by omega) t1 t2 gS (hm.tm.ri.cell hvk) (hm.tm.rl.cell hvk) tu hrlu (hm.tm.rl.frozen _) (hid ?_)
      intro t' wz m z hz hD hF'
      obtain ⟨hT2, hB2⟩ := hT1 m z wz hz hD
      have hinv := hI1.keep (ps' ++ [u]) v hp1 (by rw [e2]; exact hpd) (by rw [hlv1, e1]; exact hk) (by
        intro ps2 u2 e
        have hu2 : u2 = u := by
          have := List.append_inj_right' e rfl
          simpa using this.symm
        rw [hu2, hlv1, hs1]
        show upd s.low u _ u ≤ _
        rw [upd_same]; exact hmin)
      refine hQ t' wz _ (Nat.lt_of_lt_of_le (rest_pop G s1 { s1 with path := ps' ++ [u] } (ps' ++ [u]) v hp1 rfl rfl rfl) hre1) ⟨{ s1 with path := ps' ++ [u] }, _, _, _, _, _, _, _, _, _, ?_, ⟨hT2, hinv, ?_, ?_, ?_, ?_, hB2⟩, Nat.le_refl _⟩
      · show Fi W (some ⟨b0, o0, none⟩) G.n c i s1.comps s1.found _ _ _ t'
        rw [e5, e6]; exact hF'
      · show lS = s1.stack.length
        rw [e3]; exact hm.ls
      · show ps'.length + 1 = (ps' ++ [u]).length
        simp
      · show lO = s1.order.length
        rw [e4]; exact hm.lo
      · show ∀ x, x < i + 1 → s1.idx x ≠ 0
        rw [e1]; exact hm.fd
    · have hlv : s.low v = s.idx v := by omega
      have hLw := hm.tm.rl.cell hvk
      rw [hlv] at hLw
      refine r_close1 W b0 o0 G.n c i s.comps s.found (.slice aO lO cO) (.slice aS lS cS) g ps'.length cP v (s.ptr v) (G.deg v) (C v) (s.idx v) u (s.low u) (A v) x wr Q hn hvk hed hdv hg hcP hLk (by omega) (by omega) huk hne (fun e => hne e.symm) (by omega) t1 t2 gS (hm.tm.ri.cell hvk) hLw tu hrlu (hm.tm.rl.frozen _) (hid ?_)
      intro t' wz m z Q2 hz hD hFc hcont
      rw [← hlv] at hz
      obtain ⟨hT2, hB2⟩ := hT1 m z wz hz hD
      rw [← e5, ← e6] at hFc hcont
      exact close_step W (some ⟨b0, o0, none⟩) c G i hn s1 (ps' ++ [u]) v hp1 (by rw [e2]; exact hpd) (by rw [hlv1, e1]; exact hlv) hI1 (by rw [e1]; exact hm.fd) aS lS cS _ _ cP aO lO cO hlen.symm t' wz Q Q2 hFc hT2 hB2 gk hre1 hcont hQ

/-- THE INNER LOOP. -/
theorem inner_loop (W : World) (a : Option Addr) (c : Nat) (G : Gr) (i : Nat) (A : Nat → Option Addr) (C : Nat → Nat) (Z : Nat → Nat → Int) (hn : G.n ≤ 512) (hS : Succ W a G.n G.deg A C Z) (hE : ∀ i, i < G.n → ∀ k, k < G.deg i → Z i k = (G.E i k : Int) ∧ G.E i k < G.n)
    (gk : Nat) (t : Array Value) (wr : World) (hAt : At W a c G i gk t wr) (Q : Exit → Act → World → Prop)
    (hQ : ∀ t' w' s aS cS aP cP aO lO cO, Fi W a G.n c i s.comps s.found (.slice aO lO cO) (.slice aS 0 cS) (.slice aP 0 cP) t' → Mem W G i s aS 0 cS aP 0 cP aO lO cO w' → s.path = [] → Q (.exit 4) ⟨t', []⟩ w') :
    Code.wp Try.prog (.loop ((loopsOf (Try.f25.body.getD .skip)).getD 2 .skip)) Q ⟨t, []⟩ wr := by
  refine wp_loop_ghost (fun m act w => ∃ t, act = ⟨t, []⟩ ∧ At W a c G i m t w) gk ⟨t, rfl, hAt⟩ ?_
  rintro m act w ⟨t, rfl, s, aS, lS, cS, aP, lP, cP, aO, lO, cO, hF, hm, hre⟩
  rcases List.eq_nil_or_concat s.path with hp | ⟨ps, v, hp⟩
  · obtain rfl : lP = 0 := by rw [hm.lp, hp]; rfl
    obtain rfl : lS = 0 := by rw [hm.ls, hm.inv.stack_nil hp]; rfl
    obtain ⟨x, rfl⟩ := hF.lit
    refine r_done W a G.n c i s.comps s.found aS 0 cS aP cP aO lO cO x w _ (hid ?_)
    intro t' hF'
    exact hQ t' w s aS cS aP cP aO lO cO hF' hm hp
  · rw [List.concat_eq_append] at hp
    by_cases hed : s.ptr v < G.deg v
    · refine turn_edge W a c G i A C Z hn hS hE s aS lS cS aP lP cP aO lO cO t w hF hm m hre ps v hp hed _ ?_
      intro t' w' gk' hlt hAt'
      exact ⟨gk', hlt, t', rfl, hAt'⟩
    · refine turn_pop W a c G i A C Z hn hS s aS lS cS aP lP cP aO lO cO t w hF hm m hre ps v hp hed _ ?_
      intro t' w' gk' hlt hAt'
      exact ⟨gk', hlt, t', rfl, hAt'⟩

end Go.Proofs.Qxb6602016a
