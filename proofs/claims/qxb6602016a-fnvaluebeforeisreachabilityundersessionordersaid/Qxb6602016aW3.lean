/-
  THE WALKS of seat b6602016a, third part: the memory of Tarjan's algorithm: three rows, three slices that grow.
-/
import Derived.Test.Qxb6602016aW2
import Derived.Deep.AppendLies
import Derived.WalkSmall
namespace Go.Proofs.Qxb6602016a
open Go.RowKit Tar
set_option linter.unusedVariables false

/-- A node's number as Go holds it. -/
abbrev iv (v : Nat) : Value := .int .i64 ((v : Nat) : Int)

/-- The frames of the path. -/
def frames (s : St) : List Value := s.path.flatMap fun v => [iv v, iv (s.ptr v)]

theorem frames_len (s : St) : (frames s).length = s.path.length * 2 := by
  unfold frames
  induction s.path with
  | nil => rfl
  | cons a l ih => simp [ih]; omega

/-- Two values do not lie in one block. -/
def Ap (u v : Value) : Prop := ∀ g, u.ownBlock = some g → v.ownBlock ≠ some g

theorem Ap.symm {u v : Value} (h : Ap u v) : Ap v u := fun g h1 h2 => h g h2 h1

theorem own_block {w w' : World} {base : Nat} {e : TypeId} {size : Nat} {v : Value} {n : Nat} {xs : List Value} (h : w.ownsRow base e size v n xs) (hb : ∀ g, v.ownBlock = some g → w'.heap[g]? = w.heap[g]?) : w'.ownsRow base e size v n xs := by
  refine ⟨h.1, ?_⟩
  rcases h.2 with h2 | ⟨g, cap, cur, hv, hg, hh, r⟩
  · exact .inl h2
  · exact .inr ⟨g, cap, cur, hv, hg, (hb g (by rw [hv]; rfl)).trans hh, r⟩

/-- THE MEMORY: rows comp, index, low from block H on; stack, path and order from H + 3 on, each apart from the others. -/
structure Tm (H n : Nat) (s : St) (vs vp vo : Value) (w : World) : Prop where
  rc : w.rowIs H 3 n (fun i => .int .i64 (s.comp i))
  ri : w.rowIs (H + 1) 3 n (fun i => iv (s.idx i))
  rl : w.rowIs (H + 2) 3 n (fun i => iv (s.low i))
  os : w.ownsRow (H + 3) 3 1 vs s.stack.length (s.stack.map iv)
  op : w.ownsRow (H + 3) 48 2 vp s.path.length (frames s)
  oo : w.ownsRow (H + 3) 3 1 vo s.order.length (s.order.map iv)
  sp : Ap vs vp
  so : Ap vs vo
  po : Ap vp vo

section
variable {H n : Nat} {s : St} {vs vp vo : Value} {w w' : World}

theorem Tm.lt (h : Tm H n s vs vp vo w) : H + 3 ≤ w.heap.size := h.rl.lt

theorem Tm.drewN (h : Tm H n s vs vp vo w) (m : Nat) : Tm H n s vs vp vo (w.drewN m) := ⟨h.rc, h.ri, h.rl, h.os, h.op, h.oo, h.sp, h.so, h.po⟩
theorem Tm.drew (h : Tm H n s vs vp vo w) : Tm H n s vs vp vo w.drew := ⟨h.rc, h.ri, h.rl, h.os, h.op, h.oo, h.sp, h.so, h.po⟩

/-- What owns from H + 3 on is none of the three rows. -/
theorem own_ge {base : Nat} {e : TypeId} {size : Nat} {v : Value} {m : Nat} {xs : List Value} (h : w.ownsRow base e size v m xs) {k : Nat} (hk : k < base) : v.ownBlock ≠ some k := fun e1 => by
  have := (h.lt k e1).1
  omega

/-- A store into one of the three rows leaves the slices. -/
theorem own_low {e : TypeId} {size : Nat} {v : Value} {m : Nat} {xs : List Value} (h : w.ownsRow (H + 3) e size v m xs) {a : Addr} (ha : a.block < H + 3) (u : Value) : (w.setCell a u).ownsRow (H + 3) e size v m xs := ownsRow_setCell_below h ha u

theorem row_iv {b : Nat} {t : TypeId} {i v : Nat} {f : Nat → Nat} (h : w.rowIs b t n (fun j => if j = i then iv v else iv (f j))) : w.rowIs b t n (fun j => iv (upd f i v j)) := row_upd (mk := iv) h

/-- A store into 'low'. -/
theorem Tm.setLow (h : Tm H n s vs vp vo w) (i v : Nat) : Tm H n { s with low := upd s.low i v } vs vp vo (w.setCell ⟨H + 2, i, none⟩ (iv v)) :=
  ⟨h.rc.setOther (by simp) _, h.ri.setOther (by simp) _, row_iv (h.rl.set i (iv v)), own_low h.os (by simp) _, own_low h.op (by simp) _, own_low h.oo (by simp) _, h.sp, h.so, h.po⟩

/-- A store into 'index'. -/
theorem Tm.setIdx (h : Tm H n s vs vp vo w) (i v : Nat) : Tm H n { s with idx := upd s.idx i v } vs vp vo (w.setCell ⟨H + 1, i, none⟩ (iv v)) :=
  ⟨h.rc.setOther (by simp) _, row_iv (h.ri.set i (iv v)), h.rl.setOther (by simp) _, own_low h.os (by simp) _, own_low h.op (by simp) _, own_low h.oo (by simp) _, h.sp, h.so, h.po⟩

/-- A store into 'comp'. -/
theorem Tm.setComp (h : Tm H n s vs vp vo w) (i : Nat) (v : Int) : Tm H n { s with comp := upd s.comp i v } vs vp vo (w.setCell ⟨H, i, none⟩ (.int .i64 v)) :=
  ⟨row_upd (mk := fun x : Int => Value.int .i64 x) (h.rc.set i (.int .i64 v)), h.ri.setOther (by simp) _, h.rl.setOther (by simp) _, own_low h.os (by simp) _, own_low h.op (by simp) _, own_low h.oo (by simp) _, h.sp, h.so, h.po⟩

/-- The top frame of the path. -/
theorem Tm.top (h : Tm H n s vs vp vo w) {ps : List Nat} {v : Nat} (hp : s.path = ps ++ [v]) : ∃ g cap, vp = .slice (some ⟨g, 0, none⟩) (ps.length + 1) cap ∧ H + 3 ≤ g ∧
    w.cell? ⟨g, ps.length * 2, none⟩ = some (iv v) ∧ w.cell? ⟨g, ps.length * 2 + 1, none⟩ = some (iv (s.ptr v)) ∧ ∀ j, w.frozen? ⟨g, j, none⟩ = false := by
  have hop := h.op
  have hl : s.path.length = ps.length + 1 := by rw [hp]; simp
  have hf : frames s = (ps.flatMap fun v => [iv v, iv (s.ptr v)]) ++ [iv v, iv (s.ptr v)] := by unfold frames; rw [hp]; simp
  have hfl : (ps.flatMap fun v => [iv v, iv (s.ptr v)]).length = ps.length * 2 := by
    have := frames_len { s with path := ps }
    exact this
  rw [hl] at hop
  obtain ⟨g, cap, rfl, hb, _⟩ := hop.form (by omega)
  refine ⟨g, cap, rfl, hb, ?_, ?_, fun j => hop.frozenAt j⟩
  · rw [hop.cellAt _ (by omega), hf, List.getElem?_append_right (by omega), hfl]; simp
  · rw [hop.cellAt _ (by omega), hf, List.getElem?_append_right (by omega), hfl]
    rw [show ps.length * 2 + 1 - ps.length * 2 = 1 by omega]; rfl

/-- The frame below the top. -/
theorem Tm.below (h : Tm H n s vs vp vo w) {ps : List Nat} {u v : Nat} (hp : s.path = ps ++ [u] ++ [v]) {g cap : Nat} (hv : vp = .slice (some ⟨g, 0, none⟩) (ps.length + 1 + 1) cap) : w.cell? ⟨g, ps.length * 2, none⟩ = some (iv u) := by
  have hop := h.op
  have hl : s.path.length = ps.length + 1 + 1 := by rw [hp]; simp
  have hf : frames s = (ps.flatMap fun v => [iv v, iv (s.ptr v)]) ++ [iv u, iv (s.ptr u), iv v, iv (s.ptr v)] := by unfold frames; rw [hp]; simp
  have hfl : (ps.flatMap fun v => [iv v, iv (s.ptr v)]).length = ps.length * 2 := frames_len { s with path := ps }
  rw [hl, hv] at hop
  rw [hop.cellAt _ (by omega), hf, List.getElem?_append_right (by omega), hfl]; simp

/-- 'top.edge++': one edge more of the top has been looked at. -/
theorem Tm.bump (h : Tm H n s vs vp vo w) (hnd : s.path.Nodup) {ps : List Nat} {v : Nat} (hp : s.path = ps ++ [v]) {g cap : Nat} (hv : vp = .slice (some ⟨g, 0, none⟩) (ps.length + 1) cap) :
    Tm H n { s with ptr := upd s.ptr v (s.ptr v + 1) } vs vp vo (w.setCell ⟨g, ps.length * 2 + 1, none⟩ (iv (s.ptr v + 1))) := by
  have hop := h.op
  have hl : s.path.length = ps.length + 1 := by rw [hp]; simp
  have hg : H + 3 ≤ g := (hop.lt g (by rw [hv]; rfl)).1
  have hvb : vp.ownBlock = some g := by rw [hv]; rfl
  have hf : frames s = (ps.flatMap fun v => [iv v, iv (s.ptr v)]) ++ [iv v, iv (s.ptr v)] := by unfold frames; rw [hp]; simp
  have hfl : (ps.flatMap fun v => [iv v, iv (s.ptr v)]).length = ps.length * 2 := frames_len { s with path := ps }
  have hf' : frames { s with ptr := upd s.ptr v (s.ptr v + 1) } = (frames s).set (ps.length * 2 + 1) (iv (s.ptr v + 1)) := by
    have h1 : (ps.flatMap fun u => [iv u, iv (upd s.ptr v (s.ptr v + 1) u)]) = ps.flatMap fun u => [iv u, iv (s.ptr u)] := by
      have hnot : ∀ u, u ∈ ps → u ≠ v := by
        rw [hp, List.nodup_append] at hnd
        exact fun u hu => hnd.2.2 u hu v (List.mem_singleton.2 rfl)
      clear hl hf hfl hp hv hop hnd
      induction ps with
      | nil => rfl
      | cons a l ih => rw [List.flatMap_cons, List.flatMap_cons, upd_other _ _ _ _ (hnot a (List.mem_cons_self ..)), ih (fun u hu => hnot u (List.mem_cons_of_mem _ hu))]
    have h2 : frames { s with ptr := upd s.ptr v (s.ptr v + 1) } = (ps.flatMap fun u => [iv u, iv (upd s.ptr v (s.ptr v + 1) u)]) ++ [iv v, iv (s.ptr v + 1)] := by
      unfold frames
      show s.path.flatMap _ = _
      rw [hp]
      simp [upd_same]
    rw [h2, h1, hf, List.set_append_right _ _ (by omega), hfl, show ps.length * 2 + 1 - ps.length * 2 = 1 by omega]
    rfl
  have hst : (w.setCell ⟨g, ps.length * 2 + 1, none⟩ (iv (s.ptr v + 1))).ownsRow (H + 3) 48 2 vp s.path.length ((frames s).set (ps.length * 2 + 1) (iv (s.ptr v + 1))) := by
    rw [hl, hv] at hop ⊢
    exact (hop.stored _ _).1
  refine ⟨h.rc.setOther (by simp; omega) _, h.ri.setOther (by simp; omega) _, h.rl.setOther (by simp; omega) _, ?_, ?_, ?_, h.sp, h.so, h.po⟩
  · exact ownsRow_setCell_other h.os (fun e => h.sp g e hvb) _
  · rw [hf']; exact hst
  · exact ownsRow_setCell_other h.oo (fun e => h.po g hvb e) _

/-- The path's top is taken off. -/
theorem Tm.popPath {g cap : Nat} {ps : List Nat} (h : Tm H n s vs (.slice (some ⟨g, 0, none⟩) (ps.length + 1) cap) vo w) {v : Nat} (hp : s.path = ps ++ [v]) : Tm H n { s with path := ps } vs (.slice (some ⟨g, 0, none⟩) ps.length cap) vo w := by
  have hop := h.op
  have hl : s.path.length = ps.length + 1 := by rw [hp]; simp
  have hf : frames s = frames { s with path := ps } ++ [iv v, iv (s.ptr v)] := by unfold frames; rw [hp]; simp
  rw [hl, hf] at hop
  exact ⟨h.rc, h.ri, h.rl, h.os, ownsRow_pop (frames_len { s with path := ps }) hop, h.oo, h.sp, h.so, h.po⟩

end

/-- What was apart from a slice is apart from what an append makes of it. -/
theorem Ap.grown {u v v' : Value} (h : Ap u v) {K g : Nat} (hu : ∀ k, u.ownBlock = some k → k < K) (hv : v'.ownBlock = some g) (hat : v.ownBlock = some g ∨ g = K + 1) : Ap u v' := by
  intro k hk hk'
  rw [hv] at hk'
  cases hk'
  rcases hat with e | e
  · exact h g hk e
  · have := hu g hk; omega

/-- Behind a new block and an append onto 'row': every block that was there, but that row, is as it was. -/
theorem grown_block {W w1 : World} {o : Obj} {row : Option Nat} (hg : (W.alloc o).grownBy w1 row) {k : Nat} (hk : k < W.heap.size) (hne : row ≠ some k) : w1.heap[k]? = W.heap[k]? := by
  rw [hg.block k (by simp; omega) (fun e => hne e.symm)]
  exact Below.heap_alloc _ _ _ hk

section
variable {H n : Nat} {s : St} {vs vp vo : Value} {w w1 : World} {o : Obj}

/-- A node comes onto the stack. -/
theorem Tm.pushStack (h : Tm H n s vs vp vo w) {x g cap : Nat} (hown : w1.ownsRow (H + 3) 3 1 (.slice (some ⟨g, 0, none⟩) (s.stack.length + 1) cap) (s.stack.length + 1) (s.stack.map iv ++ [iv x])) (hg : (w.alloc o).grownBy w1 vs.ownBlock)
    (hat : vs.ownBlock = some g ∨ g = w.heap.size + 1) : Tm H n { s with stack := s.stack ++ [x] } (.slice (some ⟨g, 0, none⟩) (s.stack.length + 1) cap) vp vo w1 := by
  have hlt := h.lt
  have hlow : ∀ k, k < H + 3 → w1.heap[k]? = w.heap[k]? := fun k hk => grown_block hg (by omega) (own_ge h.os hk)
  refine ⟨h.rc.of_block (hlow _ (by omega)), h.ri.of_block (hlow _ (by omega)), h.rl.of_block (hlow _ (by omega)), ?_, ?_, ?_, ?_, ?_, h.po⟩
  · have : (s.stack ++ [x]).length = s.stack.length + 1 := by simp
    show w1.ownsRow _ _ _ _ (s.stack ++ [x]).length _
    rw [this, List.map_append]; exact hown
  · exact own_block h.op fun k hk => grown_block hg (h.op.lt k hk).2 (fun e => h.sp k e hk)
  · exact own_block h.oo fun k hk => grown_block hg (h.oo.lt k hk).2 (fun e => h.so k e hk)
  · exact (h.sp.symm.grown (fun k hk => (h.op.lt k hk).2) rfl hat).symm
  · exact (h.so.symm.grown (fun k hk => (h.oo.lt k hk).2) rfl hat).symm

/-- A node comes onto the path, none of its edges looked at. -/
theorem Tm.pushPath (h : Tm H n s vs vp vo w) {x g cap : Nat} (hx : s.ptr x = 0) (hown : w1.ownsRow (H + 3) 48 2 (.slice (some ⟨g, 0, none⟩) (s.path.length + 1) cap) (s.path.length + 1) (frames s ++ [iv x, iv 0])) (hg : (w.alloc o).grownBy w1 vp.ownBlock)
    (hat : vp.ownBlock = some g ∨ g = w.heap.size + 1) : Tm H n { s with path := s.path ++ [x] } vs (.slice (some ⟨g, 0, none⟩) (s.path.length + 1) cap) vo w1 := by
  have hlt := h.lt
  have hlow : ∀ k, k < H + 3 → w1.heap[k]? = w.heap[k]? := fun k hk => grown_block hg (by omega) (own_ge h.op hk)
  refine ⟨h.rc.of_block (hlow _ (by omega)), h.ri.of_block (hlow _ (by omega)), h.rl.of_block (hlow _ (by omega)), ?_, ?_, ?_, ?_, h.so, ?_⟩
  · exact own_block h.os fun k hk => grown_block hg (h.os.lt k hk).2 (fun e => h.sp k hk e)
  · have : (s.path ++ [x]).length = s.path.length + 1 := by simp
    show w1.ownsRow _ _ _ _ (s.path ++ [x]).length _
    have hf : frames { s with path := s.path ++ [x] } = frames s ++ [iv x, iv 0] := by
      unfold frames
      simp [hx]
    rw [this, hf]; exact hown
  · exact own_block h.oo fun k hk => grown_block hg (h.oo.lt k hk).2 (fun e => h.po k e hk)
  · exact h.sp.grown (fun k hk => (h.os.lt k hk).2) rfl hat
  · exact (h.po.symm.grown (fun k hk => (h.oo.lt k hk).2) rfl hat).symm

/-- A node comes behind the order. -/
theorem Tm.pushOrder (h : Tm H n s vs vp vo w) {x g cap : Nat} (hown : w1.ownsRow (H + 3) 3 1 (.slice (some ⟨g, 0, none⟩) (s.order.length + 1) cap) (s.order.length + 1) (s.order.map iv ++ [iv x])) (hg : (w.alloc o).grownBy w1 vo.ownBlock)
    (hat : vo.ownBlock = some g ∨ g = w.heap.size + 1) : Tm H n { s with order := s.order ++ [x] } vs vp (.slice (some ⟨g, 0, none⟩) (s.order.length + 1) cap) w1 := by
  have hlt := h.lt
  have hlow : ∀ k, k < H + 3 → w1.heap[k]? = w.heap[k]? := fun k hk => grown_block hg (by omega) (own_ge h.oo hk)
  refine ⟨h.rc.of_block (hlow _ (by omega)), h.ri.of_block (hlow _ (by omega)), h.rl.of_block (hlow _ (by omega)), ?_, ?_, ?_, h.sp, ?_, ?_⟩
  · exact own_block h.os fun k hk => grown_block hg (h.os.lt k hk).2 (fun e => h.so k hk e)
  · exact own_block h.op fun k hk => grown_block hg (h.op.lt k hk).2 (fun e => h.po k hk e)
  · have : (s.order ++ [x]).length = s.order.length + 1 := by simp
    show w1.ownsRow _ _ _ _ (s.order ++ [x]).length _
    rw [this, List.map_append]; exact hown
  · exact h.so.grown (fun k hk => (h.os.lt k hk).2) rfl hat
  · exact h.po.grown (fun k hk => (h.op.lt k hk).2) rfl hat

/-- The stack's top, and what is left when it is taken off. -/
theorem Tm.topStack (h : Tm H n s vs vp vo w) {st : List Nat} {x : Nat} (hs : s.stack = st ++ [x]) : ∃ g cap, vs = .slice (some ⟨g, 0, none⟩) (st.length + 1) cap ∧ H + 3 ≤ g ∧ w.cell? ⟨g, st.length, none⟩ = some (iv x) ∧
    Tm H n { s with stack := st } (.slice (some ⟨g, 0, none⟩) st.length cap) vp vo w := by
  have hos := h.os
  have hl : s.stack.length = st.length + 1 := by rw [hs]; simp
  have hf : s.stack.map iv = st.map iv ++ [iv x] := by rw [hs]; simp
  rw [hl, hf] at hos
  obtain ⟨g, cap, rfl, hb, _⟩ := hos.form (by omega)
  refine ⟨g, cap, rfl, hb, ?_, h.rc, h.ri, h.rl, ownsRow_pop (by simp) hos, h.op, h.oo, h.sp, h.so, h.po⟩
  rw [hos.cellAt _ (by omega), List.getElem?_append_right (by simp)]; simp
end

end Go.Proofs.Qxb6602016a
