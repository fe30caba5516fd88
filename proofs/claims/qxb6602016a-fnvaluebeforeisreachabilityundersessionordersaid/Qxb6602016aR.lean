/-
  THE WALKS of seat b6602016a: a region of stronglyConnected by itself: low is brought down (the rows of slots are written by a program of ours that only spells them out).
-/
import Derived.Test.Qxb6602016aF2
namespace Go.Proofs.Qxb6602016a
open Go.RowKit Tar
set_option linter.unusedVariables false

/-- The regions of a code, each with its number. -/
def regsOf : Code → List (Nat × Code)
  | .region n ops b => [(n, .region n ops b)]
  | .loop c => regsOf c
  | .seq a b => regsOf a ++ regsOf b
  | .block _ c => regsOf c
  | .scope c => regsOf c
  | .cond _ a b => regsOf a ++ regsOf b
  | _ => []

/-- The frame, by the slots that are spoken of. -/
def Fr3 (t : Array Value) (v8 v14 v16 : Value) : Prop := t.size = 234 ∧ t[(8 : Nat)]? = some v8 ∧ t[(14 : Nat)]? = some v14 ∧ t[(16 : Nat)]? = some v16

/-- The frame written out. -/
def lit3 (v8 v14 v16 : Value) (x : Nat → Value) : Array Value :=
  List.toArray (x 0 :: x 1 :: x 2 :: x 3 :: x 4 :: x 5 :: x 6 :: x 7 :: v8 :: x 9 :: x 10 :: x 11 :: x 12 :: x 13 :: v14 :: x 15 :: v16 :: x 17 :: x 18 :: x 19 :: x 20 :: x 21 :: x 22 :: x 23 :: x 24 :: x 25 :: x 26 :: x 27 :: x 28 :: x 29 :: x 30 :: x 31 :: x 32 :: x 33 :: x 34 :: x 35 :: x 36 :: x 37 :: x 38 :: x 39 :: x 40 :: x 41 :: x 42 :: x 43 :: x 44 :: x 45 :: x 46 :: x 47 :: x 48 :: x 49 :: x 50 :: x 51 :: x 52 :: x 53 :: x 54 :: x 55 :: x 56 :: x 57 :: x 58 :: x 59 :: x 60 :: x 61 :: x 62 :: x 63 :: x 64 :: x 65 :: x 66 :: x 67 :: x 68 :: x 69 :: x 70 :: x 71 :: x 72 :: x 73 :: x 74 :: x 75 :: x 76 :: x 77 :: x 78 :: x 79 :: x 80 :: x 81 :: x 82 :: x 83 :: x 84 :: x 85 :: x 86 :: x 87 :: x 88 :: x 89 :: x 90 :: x 91 :: x 92 :: x 93 :: x 94 :: x 95 :: x 96 :: x 97 :: x 98 :: x 99 :: x 100 :: x 101 :: x 102 :: x 103 :: x 104 :: x 105 :: x 106 :: x 107 :: x 108 :: x 109 :: x 110 :: x 111 :: x 112 :: x 113 :: x 114 :: x 115 :: x 116 :: x 117 :: x 118 :: x 119 :: x 120 :: x 121 :: x 122 :: x 123 :: x 124 :: x 125 :: x 126 :: x 127 :: x 128 :: x 129 :: x 130 :: x 131 :: x 132 :: x 133 :: x 134 :: x 135 :: x 136 :: x 137 :: x 138 :: x 139 :: x 140 :: x 141 :: x 142 :: x 143 :: x 144 :: x 145 :: x 146 :: x 147 :: x 148 :: x 149 :: x 150 :: x 151 :: x 152 :: x 153 :: x 154 :: x 155 :: x 156 :: x 157 :: x 158 :: x 159 :: x 160 :: x 161 :: x 162 :: x 163 :: x 164 :: x 165 :: x 166 :: x 167 :: x 168 :: x 169 :: x 170 :: x 171 :: x 172 :: x 173 :: x 174 :: x 175 :: x 176 :: x 177 :: x 178 :: x 179 :: x 180 :: x 181 :: x 182 :: x 183 :: x 184 :: x 185 :: x 186 :: x 187 :: x 188 :: x 189 :: x 190 :: x 191 :: x 192 :: x 193 :: x 194 :: x 195 :: x 196 :: x 197 :: x 198 :: x 199 :: x 200 :: x 201 :: x 202 :: x 203 :: x 204 :: x 205 :: x 206 :: x 207 :: x 208 :: x 209 :: x 210 :: x 211 :: x 212 :: x 213 :: x 214 :: x 215 :: x 216 :: x 217 :: x 218 :: x 219 :: x 220 :: x 221 :: x 222 :: x 223 :: x 224 :: x 225 :: x 226 :: x 227 :: x 228 :: x 229 :: x 230 :: x 231 :: x 232 :: x 233 :: [])

set_option maxRecDepth 100000 in
theorem Fr3.lit {t : Array Value} {v8 v14 v16 : Value} (h : Fr3 t v8 v14 v16) : ∃ x : Nat → Value, t = lit3 v8 v14 v16 x := by
  obtain ⟨hs, h8, h14, h16⟩ := h
  obtain ⟨x, hx⟩ : ∃ x : Nat → Value, x = fun j => t.toList.getD j undef := ⟨_, rfl⟩
  have hh := list_lit t.toList 234 (by simpa using hs)
  have ex : ∀ i v, t[i]? = some v → x i = v := by
    intro i v hv
    rw [hx]
    simp only [List.getD, Array.getElem?_toList, hv, Option.getD_some]
  rw [← hx, range_lit] at hh
  refine ⟨x, ?_⟩
  have ht : t = List.toArray t.toList := by simp
  rw [ht, hh]
  unfold lit3
  rw [ex 8 v8 h8, ex 14 v14 h14, ex 16 v16 h16]

/-- The first m slots are as they were. -/
def Same (m : Nat) (t t' : Array Value) : Prop := t'.size = 234 ∧ t'.toList.take m = t.toList.take m

theorem Same.at {m : Nat} {t t' : Array Value} (h : Same m t t') {j : Nat} {v : Value} (hv : t[j]? = some v) (hj : j < m) : t'[j]? = some v := by
  rw [← Array.getElem?_toList] at hv ⊢
  have h1 : (t'.toList.take m)[j]? = (t.toList.take m)[j]? := by rw [h.2]
  rw [List.getElem?_take, List.getElem?_take, if_pos hj, if_pos hj] at h1
  rw [h1, hv]

set_option maxRecDepth 100000 in
set_option maxHeartbeats 4000000 in
/-- 'low[u] = min(low[u], low[v])' -/
theorem reg37 (k H u v lu lv : Nat) (t : Array Value) (wr : World) (Q : Exit → Act → World → Prop) (hk : k ≤ 512) (hu : u < k) (hv : v < k) (huv : ¬ v = u) (huv2 : ¬ u = v) (hlu : lu ≤ 512) (hlv : lv ≤ 512)
    (ht : Fr3 t (.slice (some ⟨H, 0, none⟩) k k) (.int .i64 (v : Int)) (.int .i64 (u : Int)))
    (hLu : wr.cell? ⟨H, u, none⟩ = some (.int .i64 (lu : Int))) (hLv : wr.cell? ⟨H, v, none⟩ = some (.int .i64 (lv : Int))) (hF : wr.frozen? ⟨H, u, none⟩ = false)
    (hQ : Hid (∀ t' (z : Int), z = (if lv < lu then (lv : Int) else (lu : Int)) → Same 161 t t' → Q .normal ⟨t', []⟩ (wr.setCell ⟨H, u, none⟩ (.int .i64 z)).drew)) :
    Code.wp Try.prog (((regsOf (Try.f25.body.getD .skip)).lookup 37).getD .skip) Q ⟨t, []⟩ wr := by
  obtain ⟨x, rfl⟩ := ht.lit
  clear ht
  conv => arg 2; whnf
  unfold lit3 at *
  have i1 : (v : Int) < (k : Int) := by omega
  have i2 : (u : Int) < (k : Int) := by omega
  refine Code.wp_mono (Q := fun e a w => match e with | .normal => Q .normal a w | _ => False) (fun e a w h => by cases e <;> first | exact h | exact h.elim) ?_
  go_region
  refine hQ.out _ _ ?_ ?_
  · split <;> omega
  · exact ⟨rfl, rfl⟩
end Go.Proofs.Qxb6602016a
