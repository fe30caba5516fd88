/-
  THE WALKS of seat b6602016a, second part: the matrix of who reaches whom.
-/
import Derived.Test.Qxb6602016aW1
namespace Go.Proofs.Qxb6602016a
open Go.RowKit Tar
set_option linter.unusedVariables false

/-- The rows before s are done; nothing is marked from 'lim' on. -/
structure Mat (G : Gr) (s lim : Nat) (M : Nat → Bool) : Prop where
  old : ∀ x y, x < s → y < G.n → (M (x * G.n + y) = true ↔ G.reach x y)
  new : ∀ t, lim ≤ t → M t = false

theorem Mat.start (G : Gr) : Mat G 0 0 fun _ => false := ⟨fun x y h => by omega, fun _ _ => rfl⟩

theorem Mat.mark {G : Gr} {s lim P : Nat} {M : Nat → Bool} (h : Mat G s lim M) (hP : P = s * G.n) (w : Nat) (hw : w < G.n) (hl : P + G.n ≤ lim) : Mat G s lim (upd M (P + w) true) := by
  refine ⟨fun x y hx hy => ?_, fun t ht => ?_⟩
  · rw [upd_other _ _ _ _ (by have := flat_lt hy hx; omega)]
    exact h.old x y hx hy
  · rw [upd_other _ _ _ _ (by omega)]
    exact h.new t ht

theorem Mat.wider {G : Gr} {s lim lim' : Nat} {M : Nat → Bool} (h : Mat G s lim M) (hl : lim ≤ lim') : Mat G s lim' M := ⟨h.old, fun t ht => h.new t (by omega)⟩

theorem vis_mark (M : Nat → Bool) (P w : Nat) : (fun y => upd M (P + w) true (P + y)) = upd (fun y => M (P + y)) w true := by
  funext y
  by_cases e : y = w
  · subst e; rw [upd_same, upd_same]
  · rw [upd_other _ _ _ _ (by omega), upd_other _ _ _ _ e]

theorem vis_start {G : Gr} {s P : Nat} {M : Nat → Bool} (h : Mat G s P M) (hP : P = s * G.n) : (fun y => upd M (P + s) true (P + y)) = fun y => y == s := by
  funext y
  by_cases e : y = s
  · subst e; rw [upd_same]; simp
  · rw [upd_other _ _ _ _ (by omega), h.new _ (by omega)]; simp [e]

theorem Mat.next {G : Gr} (hok : G.ok) {s P Q : Nat} {M : Nat → Bool} {q : Nat → Nat} {tail : Nat} (h : Mat G s Q M) (hP : P = s * G.n) (hQ : Q = P + G.n) (hs : s < G.n) (hb : Bfs G s (fun y => M (P + y)) q tail tail) : Mat G (s + 1) Q M := by
  refine ⟨fun x y hx hy => ?_, h.new⟩
  by_cases e : x = s
  · subst e
    rw [← hP]
    exact hb.iff hok hs y hy
  · exact h.old x y (by omega) hy

theorem row_upd {α : Type} {w : World} {b : Nat} {t : TypeId} {n i : Nat} {f : Nat → α} {mk : α → Value} {v : α} (h : w.rowIs b t n (fun j => if j = i then mk v else mk (f j))) : w.rowIs b t n (fun j => mk (upd f i v j)) :=
  h.congr (fun j _ => by unfold upd; by_cases e : j = i <;> simp [e])

theorem row_upd_int {w : World} {b : Nat} {t : TypeId} {n i : Nat} {f : Nat → Nat} {k : IntKind} {v : Nat} (h : w.rowIs b t n (fun j => if j = i then Value.int k (v : Int) else Value.int k ((f j : Nat) : Int))) : w.rowIs b t n (fun j => Value.int k ((upd f i v j : Nat) : Int)) :=
  row_upd (mk := fun x : Nat => Value.int k (x : Int)) h

set_option maxHeartbeats 2000000 in
theorem matrix_any (a : Option Addr) (n c : Nat) (deg : Nat → Nat) (A : Nat → Option Addr) (C : Nat → Nat) (Z : Nat → Nat → Int) (E : Nat → Nat → Nat) (w : World) (hn : n ≤ 512) (hS : Hid (Succ w a n deg A C Z))
    (hE : Hid (∀ i, i < n → ∀ k, k < deg i → Z i k = (E i k : Int) ∧ E i k < n)) :
    Calls Try.prog 12 #[.slice a n c] w fun e w' => ∃ M : Nat → Bool, e = .returned (.slice (some ⟨w.heap.size, 0, none⟩) (n * n) (n * n)) ∧ w'.rowIs w.heap.size 4 (n * n) (fun t => .bool (M t)) ∧
      (∀ x y, x < n → y < n → (M (x * n + y) = true ↔ (Gr.mk n deg E).reach x y)) ∧ Below w.heap.size w w' := by
  have hok : Hid ((Gr.mk n deg E).ok) := fun i hi k hk => (hE.out i hi k hk).2
  obtain ⟨N, hN⟩ : ∃ N : Nat, N = n * n := ⟨_, rfl⟩
  have hNle : N ≤ 262144 := by rw [hN]; exact Nat.le_trans (Nat.mul_le_mul hn hn) (by omega)
  have hNI : (n : Int) * (n : Int) = (N : Int) := by rw [hN]; simp
  rw [← hN]
  have HN := hid hN
  clear hN
  have hmk := run_make_row' (P := Try.prog) 28 4 (.bool false) 1 Try.underlying28 Try.info4 rfl .i64 .i64 N (by omega) (by omega)
  have hmk2 := run_make_row' (P := Try.prog) 25 3 (.int .i64 0) 8 Try.underlying25 Try.info3 rfl .i64 .i64 n (by omega) (by omega)
  go_enter Try.func12, Try.ntmps12
  go_wp2
  clear hmk hmk2
  go_loopw [6] (fun i wr => ∃ s : Nat, s ≤ n ∧ i = .int .i64 s ∧ (∃ (M : Nat → Bool) (q : Nat → Nat), wr.rowIs w.heap.size 4 N (fun t => .bool (M t)) ∧ wr.rowIs (w.heap.size + 1) 3 n (fun t => .int .i64 ((q t : Nat) : Int)) ∧ Hid (Mat (Gr.mk n deg E) s (s * n) M)) ∧ Below w.heap.size w wr) (fun i _ => n - (intOf i).toNat)
  case atStart =>
    refine ⟨0, Nat.zero_le _, rfl, ⟨fun _ => false, fun _ => 0, ?_, ?_, ?_⟩, ((Below.refl _ _).alloc (Nat.le_refl _) _).alloc (by simp) _⟩
    · exact ((World.rowIs_made w (.bool false) N 4).alloc _).congr (by simp)
    · have := World.rowIs_made (w.alloc (.cells (madeCells #[.bool false] N) 4)) (.int .i64 0) n 3
      simp only [World.size_alloc] at this
      exact this.congr (by simp)
    · rw [Nat.zero_mul]; exact Mat.start _
  case round =>
    obtain ⟨s, hs, rfl, ⟨M, q, hrM, hrQ, hmat⟩, hbel⟩ := hrel
    by_cases hlt : s < n
    · obtain ⟨P, hP⟩ : ∃ P : Nat, P = s * n := ⟨_, rfl⟩
      have hPI : (s : Int) * (n : Int) = (P : Int) := by rw [hP]; simp
      have hPI2 : ((s : Int) + 1) * (n : Int) = (P : Int) + (n : Int) := by rw [Int.add_mul, hPI]; omega
      have hPN : P + n ≤ N := by
        rw [hP, HN.out]
        have := Nat.mul_le_mul_right n (show s + 1 ≤ n from hlt)
        rw [Nat.add_mul] at this
        omega
      rw [← hP] at hmat
      have HP := hid hP
      clear hP
      have f1 := hrM.frozen (P + s)
      have f2 := hrQ.frozen 0
      have d1 := hrM.cell (i := P + s) (by omega)
      have d2 := hrQ.cell (i := 0) (by omega)
      have HM := hid (row_upd (mk := Value.bool) ((hrM.set (P + s) (.bool true)).setOther (a := ⟨w.heap.size + 1, 0, none⟩) (by simp) (.int .i64 ((s : Nat) : Int))))
      have HQ := hid (row_upd_int ((hrQ.setOther (a := ⟨w.heap.size, P + s, none⟩) (by simp) (.bool true)).set 0 (.int .i64 ((s : Nat) : Int))))
      have HB := hid ((hbel.setCell (p := ⟨w.heap.size, P + s, none⟩) (Nat.le_refl _) (.bool true)).setCell (p := ⟨w.heap.size + 1, 0, none⟩) (by simp) (.int .i64 ((s : Nat) : Int)))
      have HT := hid ((hmat.out.wider (lim' := P + n) (by omega)).mark HP.out s hlt (Nat.le_refl _))
      have HF : Hid (Bfs (Gr.mk n deg E) s (fun y => upd M (P + s) true (P + y)) (upd q 0 s) 0 1) := by
        show Bfs _ _ _ _ _ _
        rw [vis_start hmat.out HP.out]
        exact Bfs.start _ s hlt q
      clear hrM hrQ hmat hbel
      go_wp2
      clear f1 f2 d1 d2
      obtain ⟨wo, rfl⟩ : ∃ wo : World, wo = wr := ⟨_, rfl⟩
      go_loopw [8, 9] (fun hd tl wr => ∃ (head tail : Nat) (M : Nat → Bool) (q : Nat → Nat), hd = .int .i64 head ∧ tl = .int .i64 tail ∧ wr.rowIs w.heap.size 4 N (fun t => .bool (M t)) ∧ wr.rowIs (w.heap.size + 1) 3 n (fun t => .int .i64 ((q t : Nat) : Int)) ∧
          Hid (Mat (Gr.mk n deg E) s (P + n) M) ∧ Hid (Bfs (Gr.mk n deg E) s (fun y => M (P + y)) q head tail) ∧ head ≤ tail ∧ tail ≤ n ∧ Below w.heap.size w wr) (fun hd _ _ => n - (intOf hd).toNat)
      case atStart => exact ⟨0, 1, _, _, rfl, rfl, HM.out, HQ.out, HT, HF, by omega, by omega, HB.out⟩
      case round =>
        obtain ⟨head, tail, M, q, rfl, rfl, hrM, hrQ, hmat, hbfs, hht, htn, hbel⟩ := hrel
        clear HM HQ HB HT HF
        by_cases hlt2 : head < tail
        · obtain ⟨v, hv⟩ : ∃ v, v = q head := ⟨_, rfl⟩
          have hvn : v < n := by rw [hv]; exact hbfs.out.lt head hlt2
          have d1 : wr.cell? ⟨w.heap.size + 1, head, none⟩ = some (.int .i64 ((v : Nat) : Int)) := by rw [hv]; exact hrQ.cell (by omega)
          have HV := hid hv.symm
          clear hv
          have HM := hid hrM
          have HQ := hid hrQ
          have HB := hid hbel
          clear hrM hrQ hbel
          go_wp2
          clear d1
          obtain ⟨wm, rfl⟩ : ∃ wm : World, wm = wr := ⟨_, rfl⟩
          go_loopw [9, 11] (fun tl kk wr => ∃ (k tail : Nat) (M : Nat → Bool) (q : Nat → Nat), tl = .int .i64 tail ∧ kk = .int .i64 k ∧ k ≤ deg v ∧ wr.rowIs w.heap.size 4 N (fun t => .bool (M t)) ∧ wr.rowIs (w.heap.size + 1) 3 n (fun t => .int .i64 ((q t : Nat) : Int)) ∧
              Hid (Mat (Gr.mk n deg E) s (P + n) M) ∧ Hid (Bfs (Gr.mk n deg E) s (fun y => M (P + y)) q head tail) ∧ head < tail ∧ tail ≤ n ∧ Hid (q head = v) ∧ Hid (∀ k', k' < k → M (P + E v k') = true) ∧ Below w.heap.size w wr) (fun _ kk _ => deg v - (intOf kk).toNat)
          case atStart => exact ⟨0, tail, M, q, rfl, rfl, by omega, HM.out, HQ.out, hmat, hbfs, hlt2, htn, HV, fun k' hk' => by omega, HB.out⟩
          case round =>
            obtain ⟨k, tail, M, q, rfl, rfl, hkd, hrM, hrQ, hmat, hbfs, hht, htn, hqv, hmk, hbel⟩ := hrel
            clear HM HQ HB HV
            obtain ⟨b0, o0, rfl, hc0⟩ := hS.out.top (by omega)
            have g0 : wr.cell? ⟨b0, o0 + v, none⟩ = some (.slice (A v) (deg v) (C v)) := cell_later hbel (hc0 v hvn)
            have hdv := hS.out.deg v hvn
            clear hc0
            by_cases hlt3 : k < deg v
            · obtain ⟨b1, o1, hA, hc1⟩ := hS.out.row v hvn (by omega)
              have g1 : wr.cell? ⟨b1, o1 + k, none⟩ = some (.int .i64 (Z v k)) := cell_later hbel (hc1 k hlt3)
              rw [hA] at g0
              obtain ⟨hz, he⟩ := hE.out v hvn k hlt3
              rw [hz] at g1
              obtain ⟨e, hee⟩ : ∃ e, e = E v k := ⟨_, rfl⟩
              rw [← hee] at g1 he
              have HE := hid hee
              have d1 : wr.cell? ⟨w.heap.size, P + e, none⟩ = some (.bool (M (P + e))) := hrM.cell (i := P + e) (by omega)
              clear hA hc1 hz hee
              cases hMe : M (P + e) with
              | true =>
                rw [hMe] at d1
                have HM := hid hrM
                have HQ := hid hrQ
                clear hrM hrQ
                go_wp2
                go_roundw
                case rel => exact ⟨k + 1, tail, M, q, rfl, by go_num, by omega, HM.out, HQ.out, hmat, hbfs, hht, htn, hqv, hid (fun k' hk' => by
                  by_cases e2 : k' = k
                  · subst e2; rw [← HE.out]; exact hMe
                  · exact hmk.out k' (by omega)), hbel⟩
                case measure => simp [intOf]; omega
              | false =>
                rw [hMe] at d1
                have htl : tail < n := hbfs.out.tail_lt (w := e) he hMe
                have f1 := hrM.frozen (P + e)
                have f2 := hrQ.frozen tail
                have d2 := hrQ.cell (i := tail) htl
                have HM := hid (row_upd (mk := Value.bool) ((hrM.set (P + e) (.bool true)).setOther (a := ⟨w.heap.size + 1, tail, none⟩) (by simp) (.int .i64 ((e : Nat) : Int))))
                have HQ := hid (row_upd_int ((hrQ.setOther (a := ⟨w.heap.size, P + e, none⟩) (by simp) (.bool true)).set tail (.int .i64 ((e : Nat) : Int))))
                have HB := hid ((hbel.setCell (p := ⟨w.heap.size, P + e, none⟩) (Nat.le_refl _) (.bool true)).setCell (p := ⟨w.heap.size + 1, tail, none⟩) (by simp) (.int .i64 ((e : Nat) : Int)))
                have HT := hid (hmat.out.mark HP.out e he (Nat.le_refl _))
                have HF : Hid (Bfs (Gr.mk n deg E) s (fun y => upd M (P + e) true (P + y)) (upd q tail e) head (tail + 1)) := by
                  show Bfs _ _ _ _ _ _
                  rw [vis_mark]
                  refine hbfs.out.add e he hMe ?_
                  have hr := hbfs.out.reach v hvn (by have := hbfs.out.inq head hht; rw [hqv.out] at this; exact this)
                  exact hr.trans (.one ⟨hvn, k, hlt3, HE.out.symm⟩)
                have HV2 : Hid (upd q tail e head = v) := by show _ = _; rw [upd_other _ _ _ _ (by omega)]; exact hqv.out
                have HK2 : Hid (∀ k', k' < k + 1 → upd M (P + e) true (P + E v k') = true) := fun k' hk' => by
                  by_cases e2 : k' = k
                  · subst e2; rw [← HE.out]; exact upd_same _ _ _
                  · by_cases e3 : P + E v k' = P + e
                    · rw [e3]; exact upd_same _ _ _
                    · rw [upd_other _ _ _ _ e3]; exact hmk.out k' (by omega)
                clear hrM hrQ hbel hmat hbfs
                go_wp2
                go_roundw
                case rel => exact ⟨k + 1, tail + 1, _, _, by go_num, by go_num, by omega, HM.out, HQ.out, HT, HF, by omega, by omega, HV2, HK2, HB.out⟩
                case measure => simp [intOf]; omega
            · obtain rfl : k = deg v := by omega
              have HM := hid hrM
              have HQ := hid hrQ
              have HF := hid (hbfs.out.next hht (by rw [hqv.out]; exact hmk.out))
              clear hrM hrQ
              go_wp2
              go_roundw
              case rel => exact ⟨head + 1, tail, M, q, by go_num, rfl, HM.out, HQ.out, hmat, HF, by omega, htn, hbel⟩
              case measure => simp [intOf]; omega
        · obtain rfl : head = tail := by omega
          have HM := hid hrM
          have HQ := hid hrQ
          have HT : Hid (Mat (Gr.mk n deg E) (s + 1) ((s + 1) * n) M) := by
            show Mat _ _ _ _
            have : (s + 1) * n = P + n := by rw [Nat.add_mul, HP.out]; omega
            rw [this]
            exact hmat.out.next hok.out HP.out rfl hlt hbfs.out
          clear hrM hrQ
          go_wp2
          go_roundw
          case rel => exact ⟨s + 1, by omega, by go_num, ⟨M, q, HM.out, HQ.out, HT⟩, hbel⟩
          case measure => simp [intOf]; omega
    · obtain rfl : s = n := by omega
      have HM := hid hrM
      clear hrM hrQ
      go_wp2
      go_ret
      exact ⟨M, rfl, HM.out, fun x y hx hy => hmat.out.old x y hx hy, hbel⟩

end Go.Proofs.Qxb6602016a
