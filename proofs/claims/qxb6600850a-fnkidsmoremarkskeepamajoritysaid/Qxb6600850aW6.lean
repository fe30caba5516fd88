/-
  THE WALKS of seat b6600850a, sixth part: the law.
-/
import Derived.Test.Qxb6600850aW5
namespace Go.Proofs.Qxb6600850a
open Go.RowKit Plain
set_option linter.unusedVariables false

/-- Too long: true. -/
theorem law_long (d s home v : Int) (a b : Option Addr) (l c l' c' : Nat) (w : World) (hl : l ≤ 9223372036854775807) (hl' : l' ≤ 9223372036854775807) (h : 1048576 < l + l') :
    Calls Try.prog 4 #[.int .i64 d, .int .i64 s, .int .i64 home, .int .i64 v, .slice a l c, .slice b l' c'] w fun e w' => e = .returned (.bool true) ∧ w' = w := by
  go_enter Try.func4, Try.ntmps4
  go_wp2_with fail
  refine (bytes_no d s home v a b l c l' c' w hl hl' h).mono ?_
  rintro e w1 ⟨rfl, rfl⟩
  simp only []
  go_wp2
  go_ret
  exact ⟨rfl, rfl⟩

set_option maxHeartbeats 1000000 in
theorem law_out (d s home v : Int) (a b : Option Addr) (l c l' c' : Nat) (w : World) (h : l + l' ≤ 1048576)
    (hbad : Hid (¬ ((l : Int) ≤ 65536 ∧ (l' : Int) ≤ 65536 ∧ 1 ≤ d ∧ 1 ≤ s ∧ s ≤ 65536 ∧ 0 ≤ home ∧ home < s ∧ 0 ≤ v ∧ v < s ∧ (l : Int) = s ∧ ((l' : Int) != s) = false))) :
    Calls Try.prog 4 #[.int .i64 d, .int .i64 s, .int .i64 home, .int .i64 v, .slice a l c, .slice b l' c'] w fun e w' => e = .returned (.bool true) ∧ w' = w := by
  go_enter Try.func4, Try.ntmps4
  go_wp2_with fail
  refine (bytes_ok d s home v a b l c l' c' w h).mono ?_
  rintro e w1 ⟨rfl, rfl⟩
  simp only []
  go_wp2
  all_goals first
    | (go_ret; exact ⟨rfl, rfl⟩)
    | (refine absurd ?_ hbad.out; refine ⟨by omega, by omega, by omega, by omega, by omega, by omega, by omega, by omega, by omega, by assumption, ?_⟩; exact And.right (by assumption))

set_option maxHeartbeats 1000000 in
theorem law_in (d home : Int) (n v bh oh bm om c c' : Nat) (h g : Nat → Bool) (w : World) (hd : 1 ≤ d) (hd2 : d ≤ 9223372036854775807) (hn1 : 1 ≤ n) (hn : n ≤ 65536) (hv : v < n) (hh : 0 ≤ home) (hh2 : home < n)
    (hbh : bh < w.heap.size) (hbm : bm < w.heap.size) (hch : Hid (∀ i, i < n → w.cell? ⟨bh, oh + i, none⟩ = some (.bool (h i)))) (hcg : Hid (∀ i, i < n → w.cell? ⟨bm, om + i, none⟩ = some (.bool (g i)))) :
    Calls Try.prog 4 #[.int .i64 d, .int .i64 n, .int .i64 home, .int .i64 v, .slice (some ⟨bh, oh, none⟩) n c, .slice (some ⟨bm, om, none⟩) n c'] w fun e w' => e = .returned (.bool true) ∧ Below w.heap.size w w' := by
  have q27 : ∀ (w : World) (a : Option Addr) (n c n' c' : Nat), (binOp .eql 27 (.slice a n c) (.slice none n' c')).run Try.prog w = .ok (.bool a.isNone) w := fun w a n c n' c' => Lib.run_eql_slice_nil w _ _ a n c n' c' Try.underlying27
  have p27 : ∀ (w : World) (a : Option Addr) (n c n' c' : Nat), (binOp .neq 27 (.slice a n c) (.slice none n' c')).run Try.prog w = .ok (.bool (!a.isNone)) w := fun w a n c n' c' => run_neq_slice_nil_any w _ _ a n c n' c' Try.underlying27
  go_enter Try.func4, Try.ntmps4
  go_wp2_with fail
  refine (bytes_ok d n home v _ _ n c n c' w (by omega)).mono ?_
  rintro e w1 ⟨rfl, rfl⟩
  simp only []
  go_wp2
  go_loop [13] (fun i => ∃ k : Nat, k ≤ n ∧ i = .int .i64 k ∧ Hid (∀ j, j < k → h j = true → g j = true)) (fun i => n - (intOf i).toNat)
  case atStart => exact ⟨0, Nat.zero_le _, rfl, fun j hj => by omega⟩
  case round =>
    obtain ⟨k, hk, rfl, hsub⟩ := hrel
    by_cases hlt : k < n
    · have h1 := hch.out k hlt
      have h2 := hcg.out k hlt
      have hnext : (h k = true → g k = true) → Hid (∀ j, j < k + 1 → h j = true → g j = true) := by
        intro hx j hj
        by_cases e : j = k
        · subst e; exact hx
        · exact hsub.out j (by omega)
      cases hb : h k with
      | false =>
        rw [hb] at h1 hnext
        have HX := hnext (by simp)
        clear hnext
        go_wp2
        go_round
        case rel => exact ⟨k + 1, by omega, by go_num, HX⟩
        case measure => simp [intOf]; omega
      | true =>
        cases gb : g k with
        | false =>
          rw [hb] at h1
          rw [gb] at h2
          clear hnext
          go_wp2
          go_ret
          exact ⟨rfl, Below.refl _ _⟩
        | true =>
          rw [hb] at h1
          rw [gb] at h2
          have HX := hnext (fun _ => gb)
          clear hnext
          go_wp2
          go_round
          case rel => exact ⟨k + 1, by omega, by go_num, HX⟩
          case measure => simp [intOf]; omega
    · obtain rfl : k = n := by omega
      go_wp2_with fail
      refine (clone_any bh oh k c h _ hbh hn hch.out).mono ?_
      rintro e w2 ⟨rfl, hr2, hb2⟩
      simp only []
      have hcg2 : ∀ i, i < k → w2.cell? ⟨bm, om + i, none⟩ = some (.bool (g i)) := fun i hi => cell_later hb2 (hcg.out i hi)
      have C2 := clone_any bm om k c' g w2 (Nat.lt_of_lt_of_le hbm hb2.size) hn hcg2
      have H2 := hid hr2
      have C2' := hid C2
      clear hr2 C2 hcg2 hch hcg
      go_wp2_with fail
      refine C2'.out.mono ?_
      rintro e w3 ⟨rfl, hr3, hb3⟩
      simp only []
      have H3 := hid hr3
      clear hr3
      go_wp2_with fail
      refine (zzToward_any d k home _ hd hd2 hn hh hh2).mono ?_
      rintro e w4 ⟨rfl, ⟨tw, hr4, hways⟩, hb4⟩
      simp only []
      have e2 : w4.rowIs w1.heap.size 4 k (fun i => .bool (h i)) := (H2.out.of_block (hb3.block _ H2.out.lt)).of_block (hb4.block _ (Nat.lt_of_lt_of_le H2.out.lt hb3.size))
      have e3 : w4.rowIs w2.heap.size 4 k (fun i => .bool (g i)) := H3.out.of_block (hb4.block _ H3.out.lt)
      have K1 := hid (zzKids_any d home k v (w3.heap.size + 1) w1.heap.size tw h w4 hd hd2 hn hv hh hh2 hr4 hways e2)
      have K2 := hid (fun (w5 : World) (hb : Below w4.heap.size w4 w5) => zzKids_any d home k v (w3.heap.size + 1) w2.heap.size tw g w5 hd hd2 hn hv hh hh2 (hr4.of_block (hb.block _ hr4.lt)) hways (e3.of_block (hb.block _ e3.lt)))
      have HM := hid (cnt_mono h g (kFirst d k v) (stOf (kFirst d k v) (kEnd d k v - kFirst d k v) home (tw v)) (kEnd d k v - kFirst d k v) (kEnd d k v - kFirst d k v).toNat (by
        intro j hj
        have hr := range d k v hd (by omega) (by omega)
        have hp := place (kFirst d k v) (stOf (kFirst d k v) (kEnd d k v - kFirst d k v) home (tw v)) (kEnd d k v - kFirst d k v) j (by omega)
        exact hsub.out _ (by omega)))
      have HB : Below w1.heap.size w1 w4 := hb2.trans ((hb3.mono hb2.size).trans (hb4.mono (Nat.le_trans hb2.size hb3.size)))
      clear hr4 hways e2 e3 H2 H3 hb2 hb3 hb4 hsub
      generalize cnt h (kFirst d k v) (stOf (kFirst d k v) (kEnd d k v - kFirst d k v) home (tw v)) (kEnd d k v - kFirst d k v) (kEnd d k v - kFirst d k v).toNat = CH at *
      generalize cnt g (kFirst d k v) (stOf (kFirst d k v) (kEnd d k v - kFirst d k v) home (tw v)) (kEnd d k v - kFirst d k v) (kEnd d k v - kFirst d k v).toNat = CG at *
      generalize ((kEnd d k v - kFirst d k v) / 2 + 1).toNat = need at *
      go_wp2_with fail
      refine K1.out.mono ?_
      rintro e w5 ⟨r, rfl, hres, hb5⟩
      simp only []
      have HR := hid hres
      clear hres
      go_wp2_with fail
      refine (K2.out w5 hb5).mono ?_
      rintro e w6 ⟨r', rfl, hres', hb6⟩
      simp only []
      have HF : Below w1.heap.size w1 w6 := HB.trans ((hb5.mono HB.size).trans (hb6.mono (Nat.le_trans HB.size hb5.size)))
      clear K1 K2 HB hb5 hb6
      rcases HR.out with ⟨h1, rfl⟩ | ⟨h1, a, cap, rfl⟩
      · clear hres'
        go_wp2
        go_ret
        exact ⟨rfl, HF⟩
      · rcases hres' with ⟨h2, _⟩ | ⟨h2, a', cap', rfl⟩
        · exact absurd HM.out (by omega)
        · go_wp2
          go_ret
          exact ⟨rfl, HF⟩

end Go.Proofs.Qxb6600850a
