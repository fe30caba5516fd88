/-
  THE WALKS of seat b6602016a: the last loop of stronglyConnected: the order is turned round (the rows of slots are written by a program of ours that only spells them out).
-/
import Derived.Test.Qxb6602016aR
namespace Go.Proofs.Qxb6602016a
open Go.RowKit Tar
set_option linter.unusedVariables false

/-- The frame of stronglyConnected in its last loop. -/
def Fr4 (t : Array Value) (v2 v3 v4 v18 v19 : Value) : Prop := t.size = 234 ∧ t[(2 : Nat)]? = some v2 ∧ t[(3 : Nat)]? = some v3 ∧ t[(4 : Nat)]? = some v4 ∧ t[(18 : Nat)]? = some v18 ∧ t[(19 : Nat)]? = some v19

def lit4 (v2 v3 v4 v18 v19 : Value) (x : Nat → Value) : Array Value :=
  List.toArray (x 0 :: x 1 :: v2 :: v3 :: v4 :: x 5 :: x 6 :: x 7 :: x 8 :: x 9 :: x 10 :: x 11 :: x 12 :: x 13 :: x 14 :: x 15 :: x 16 :: x 17 :: v18 :: v19 :: x 20 :: x 21 :: x 22 :: x 23 :: x 24 :: x 25 :: x 26 :: x 27 :: x 28 :: x 29 :: x 30 :: x 31 :: x 32 :: x 33 :: x 34 :: x 35 :: x 36 :: x 37 :: x 38 :: x 39 :: x 40 :: x 41 :: x 42 :: x 43 :: x 44 :: x 45 :: x 46 :: x 47 :: x 48 :: x 49 :: x 50 :: x 51 :: x 52 :: x 53 :: x 54 :: x 55 :: x 56 :: x 57 :: x 58 :: x 59 :: x 60 :: x 61 :: x 62 :: x 63 :: x 64 :: x 65 :: x 66 :: x 67 :: x 68 :: x 69 :: x 70 :: x 71 :: x 72 :: x 73 :: x 74 :: x 75 :: x 76 :: x 77 :: x 78 :: x 79 :: x 80 :: x 81 :: x 82 :: x 83 :: x 84 :: x 85 :: x 86 :: x 87 :: x 88 :: x 89 :: x 90 :: x 91 :: x 92 :: x 93 :: x 94 :: x 95 :: x 96 :: x 97 :: x 98 :: x 99 :: x 100 :: x 101 :: x 102 :: x 103 :: x 104 :: x 105 :: x 106 :: x 107 :: x 108 :: x 109 :: x 110 :: x 111 :: x 112 :: x 113 :: x 114 :: x 115 :: x 116 :: x 117 :: x 118 :: x 119 :: x 120 :: x 121 :: x 122 :: x 123 :: x 124 :: x 125 :: x 126 :: x 127 :: x 128 :: x 129 :: x 130 :: x 131 :: x 132 :: x 133 :: x 134 :: x 135 :: x 136 :: x 137 :: x 138 :: x 139 :: x 140 :: x 141 :: x 142 :: x 143 :: x 144 :: x 145 :: x 146 :: x 147 :: x 148 :: x 149 :: x 150 :: x 151 :: x 152 :: x 153 :: x 154 :: x 155 :: x 156 :: x 157 :: x 158 :: x 159 :: x 160 :: x 161 :: x 162 :: x 163 :: x 164 :: x 165 :: x 166 :: x 167 :: x 168 :: x 169 :: x 170 :: x 171 :: x 172 :: x 173 :: x 174 :: x 175 :: x 176 :: x 177 :: x 178 :: x 179 :: x 180 :: x 181 :: x 182 :: x 183 :: x 184 :: x 185 :: x 186 :: x 187 :: x 188 :: x 189 :: x 190 :: x 191 :: x 192 :: x 193 :: x 194 :: x 195 :: x 196 :: x 197 :: x 198 :: x 199 :: x 200 :: x 201 :: x 202 :: x 203 :: x 204 :: x 205 :: x 206 :: x 207 :: x 208 :: x 209 :: x 210 :: x 211 :: x 212 :: x 213 :: x 214 :: x 215 :: x 216 :: x 217 :: x 218 :: x 219 :: x 220 :: x 221 :: x 222 :: x 223 :: x 224 :: x 225 :: x 226 :: x 227 :: x 228 :: x 229 :: x 230 :: x 231 :: x 232 :: x 233 :: [])

set_option maxRecDepth 100000 in
theorem Fr4.lit {t : Array Value} {v2 v3 v4 v18 v19 : Value} (h : Fr4 t v2 v3 v4 v18 v19) : ∃ x : Nat → Value, t = lit4 v2 v3 v4 v18 v19 x := by
  obtain ⟨hs, h2, h3, h4, h18, h19⟩ := h
  obtain ⟨x, hx⟩ : ∃ x : Nat → Value, x = fun j => t.toList.getD j undef := ⟨_, rfl⟩
  have hh := list_lit t.toList 234 (by simpa using hs)
  have ex : ∀ i v, t[i]? = some v → x i = v := by
    intro i v hv
    rw [hx]
    simp only [List.getD, Array.getElem?_toList, hv, Option.getD_some]
  rw [← hx, range_lit] at hh
  refine ⟨x, ?_⟩
  have ht : t = List.toArray t.toList := by simp
  rw [ht, hh]
  unfold lit4
  rw [ex 2 v2 h2, ex 3 v3 h3, ex 4 v4 h4, ex 18 v18 h18, ex 19 v19 h19]



set_option maxRecDepth 100000 in
set_option maxHeartbeats 8000000 in
/-- 'order[i], order[j] = order[j], order[i]' -/
theorem reg49 (v2 v3 : Value) (g n cO i j : Nat) (hij : i < j) (hj : j < n) (hn : n ≤ 512) (p q : Nat) (t : Array Value) (wr : World) (Q : Exit → Act → World → Prop)
    (ht : Fr4 t v2 v3 (.slice (some ⟨g, 0, none⟩) n cO) (.int .i64 (i : Int)) (.int .i64 (j : Int)))
    (ci : wr.cell? ⟨g, i, none⟩ = some (.int .i64 (p : Int))) (cj : wr.cell? ⟨g, j, none⟩ = some (.int .i64 (q : Int))) (fi : wr.frozen? ⟨g, i, none⟩ = false) (fj : wr.frozen? ⟨g, j, none⟩ = false)
    (hQ : Hid (∀ t', Same 217 t t' → Q .normal ⟨t', []⟩ ((wr.setCell ⟨g, i, none⟩ (.int .i64 (q : Int))).setCell ⟨g, j, none⟩ (.int .i64 (p : Int))).drew)) :
    Code.wp Try.prog (((regsOf (Try.f25.body.getD .skip)).lookup 49).getD .skip) Q ⟨t, []⟩ wr := by
  obtain ⟨x, rfl⟩ := ht.lit
  clear ht
  conv => arg 2; whnf
  unfold lit4 at *
  have i1 : (i : Int) < (j : Int) := by omega
  have i2 : (j : Int) < (n : Int) := by omega
  have i3 : (i : Int) < (n : Int) := by omega
  have ne1 : ¬ i = j := by omega
  have ne2 : ¬ j = i := by omega
  refine Code.wp_mono (Q := fun e a w => match e with | .normal => Q .normal a w | _ => False) (fun e a w h => by cases e <;> first | exact h | exact h.elim) ?_
  go_region
  all_goals exact hQ.out _ ⟨rfl, rfl⟩

set_option maxRecDepth 100000 in
set_option maxHeartbeats 2000000 in
theorem v_done (v2 v3 v4 : Value) (i : Nat) (j : Int) (hij : ¬ (i : Int) < j) (x : Nat → Value) (wr : World) (Q : Exit → Act → World → Prop) (hQ : Hid (∀ t', Fr4 t' v2 v3 v4 (.int .i64 (i : Int)) (.int .i64 j) → Q (.exit 8) ⟨t', []⟩ wr)) :
    Code.wp Try.prog ((loopsOf (Try.f25.body.getD .skip)).getD 4 .skip) Q ⟨lit4 v2 v3 v4 (.int .i64 (i : Int)) (.int .i64 j) x, []⟩ wr := by
  conv => arg 2; whnf
  unfold lit4
  go_wp2
  exact hQ.out _ ⟨rfl, rfl, rfl, rfl, rfl, rfl⟩

set_option maxRecDepth 100000 in
set_option maxHeartbeats 4000000 in
theorem v_turn (v2 v3 : Value) (g n cO i j : Nat) (hij : i < j) (hj : j < n) (hn : n ≤ 512) (p q : Nat) (x : Nat → Value) (wr : World) (Q : Exit → Act → World → Prop)
    (ci : wr.cell? ⟨g, i, none⟩ = some (.int .i64 (p : Int))) (cj : wr.cell? ⟨g, j, none⟩ = some (.int .i64 (q : Int))) (fi : wr.frozen? ⟨g, i, none⟩ = false) (fj : wr.frozen? ⟨g, j, none⟩ = false)
    (hQ : Hid (∀ t', Fr4 t' v2 v3 (.slice (some ⟨g, 0, none⟩) n cO) (.int .i64 ((i + 1 : Nat) : Int)) (.int .i64 ((j - 1 : Nat) : Int)) → Q .normal ⟨t', []⟩ ((wr.setCell ⟨g, i, none⟩ (.int .i64 (q : Int))).setCell ⟨g, j, none⟩ (.int .i64 (p : Int))).drew)) :
    Code.wp Try.prog ((loopsOf (Try.f25.body.getD .skip)).getD 4 .skip) Q ⟨lit4 v2 v3 (.slice (some ⟨g, 0, none⟩) n cO) (.int .i64 (i : Int)) (.int .i64 (j : Int)) x, []⟩ wr := by
  conv => arg 2; whnf
  unfold lit4
  have i1 : (i : Int) < (j : Int) := by omega
  have i2 : (j : Int) < (n : Int) := by omega
  have i3 : (i : Int) < (n : Int) := by omega
  go_wp2
  refine reg49 v2 v3 g n cO i j hij hj hn p q _ _ _ ⟨rfl, rfl, rfl, rfl, rfl, rfl⟩ ci cj fi fj (hid ?_)
  intro t' hsame
  have hF2 : Fr4 t' v2 v3 (.slice (some ⟨g, 0, none⟩) n cO) (.int .i64 (i : Int)) (.int .i64 (j : Int)) :=
    ⟨hsame.1, hsame.at rfl (by decide), hsame.at rfl (by decide), hsame.at rfl (by decide), hsame.at rfl (by decide), hsame.at rfl (by decide)⟩
  clear hsame
  obtain ⟨x2, rfl⟩ := hF2.lit
  clear hF2
  unfold lit4
  go_wp2
  refine hQ.out _ ⟨rfl, rfl, rfl, rfl, ?_, ?_⟩
  · simp
  · simp; omega

end Go.Proofs.Qxb6602016a
