/-
  THE WALKS of seat b6602016a: the frame of stronglyConnected, and the codes of its loops (the rows of slots are written by a program of ours that only spells them out).
-/
import Derived.Test.Qxb6602016aW3
import Derived.Handy
import Derived.Deep.LoopGhost
import Derived.Deep.DeepMust
namespace Go.Proofs.Qxb6602016a
open Go.RowKit Tar
set_option linter.unusedVariables false

/-- The loops of a code, each body, the outer first. -/
def loopsOf : Code → List Code
  | .loop c => c :: loopsOf c
  | .seq a b => loopsOf a ++ loopsOf b
  | .block _ c => loopsOf c
  | .scope c => loopsOf c
  | .cond _ a b => loopsOf a ++ loopsOf b
  | _ => []

/-- The frame of stronglyConnected, by the slots that are spoken of. -/
def Fr (t : Array Value) (v0 v2 v3 v4 v5 v7 v8 v9 v10 v11 v38 v39 : Value) : Prop := t.size = 234 ∧ t[(0 : Nat)]? = some v0 ∧ t[(2 : Nat)]? = some v2 ∧ t[(3 : Nat)]? = some v3 ∧ t[(4 : Nat)]? = some v4 ∧ t[(5 : Nat)]? = some v5 ∧ t[(7 : Nat)]? = some v7 ∧ t[(8 : Nat)]? = some v8 ∧ t[(9 : Nat)]? = some v9 ∧ t[(10 : Nat)]? = some v10 ∧ t[(11 : Nat)]? = some v11 ∧ t[(38 : Nat)]? = some v38 ∧ t[(39 : Nat)]? = some v39

/-- The frame written out. -/
def lit (v0 v2 v3 v4 v5 v7 v8 v9 v10 v11 v38 v39 : Value) (x : Nat → Value) : Array Value :=
  List.toArray (v0 :: x 1 :: v2 :: v3 :: v4 :: v5 :: x 6 :: v7 :: v8 :: v9 :: v10 :: v11 :: x 12 :: x 13 :: x 14 :: x 15 :: x 16 :: x 17 :: x 18 :: x 19 :: x 20 :: x 21 :: x 22 :: x 23 :: x 24 :: x 25 :: x 26 :: x 27 :: x 28 :: x 29 :: x 30 :: x 31 :: x 32 :: x 33 :: x 34 :: x 35 :: x 36 :: x 37 :: v38 :: v39 :: x 40 :: x 41 :: x 42 :: x 43 :: x 44 :: x 45 :: x 46 :: x 47 :: x 48 :: x 49 :: x 50 :: x 51 :: x 52 :: x 53 :: x 54 :: x 55 :: x 56 :: x 57 :: x 58 :: x 59 :: x 60 :: x 61 :: x 62 :: x 63 :: x 64 :: x 65 :: x 66 :: x 67 :: x 68 :: x 69 :: x 70 :: x 71 :: x 72 :: x 73 :: x 74 :: x 75 :: x 76 :: x 77 :: x 78 :: x 79 :: x 80 :: x 81 :: x 82 :: x 83 :: x 84 :: x 85 :: x 86 :: x 87 :: x 88 :: x 89 :: x 90 :: x 91 :: x 92 :: x 93 :: x 94 :: x 95 :: x 96 :: x 97 :: x 98 :: x 99 :: x 100 :: x 101 :: x 102 :: x 103 :: x 104 :: x 105 :: x 106 :: x 107 :: x 108 :: x 109 :: x 110 :: x 111 :: x 112 :: x 113 :: x 114 :: x 115 :: x 116 :: x 117 :: x 118 :: x 119 :: x 120 :: x 121 :: x 122 :: x 123 :: x 124 :: x 125 :: x 126 :: x 127 :: x 128 :: x 129 :: x 130 :: x 131 :: x 132 :: x 133 :: x 134 :: x 135 :: x 136 :: x 137 :: x 138 :: x 139 :: x 140 :: x 141 :: x 142 :: x 143 :: x 144 :: x 145 :: x 146 :: x 147 :: x 148 :: x 149 :: x 150 :: x 151 :: x 152 :: x 153 :: x 154 :: x 155 :: x 156 :: x 157 :: x 158 :: x 159 :: x 160 :: x 161 :: x 162 :: x 163 :: x 164 :: x 165 :: x 166 :: x 167 :: x 168 :: x 169 :: x 170 :: x 171 :: x 172 :: x 173 :: x 174 :: x 175 :: x 176 :: x 177 :: x 178 :: x 179 :: x 180 :: x 181 :: x 182 :: x 183 :: x 184 :: x 185 :: x 186 :: x 187 :: x 188 :: x 189 :: x 190 :: x 191 :: x 192 :: x 193 :: x 194 :: x 195 :: x 196 :: x 197 :: x 198 :: x 199 :: x 200 :: x 201 :: x 202 :: x 203 :: x 204 :: x 205 :: x 206 :: x 207 :: x 208 :: x 209 :: x 210 :: x 211 :: x 212 :: x 213 :: x 214 :: x 215 :: x 216 :: x 217 :: x 218 :: x 219 :: x 220 :: x 221 :: x 222 :: x 223 :: x 224 :: x 225 :: x 226 :: x 227 :: x 228 :: x 229 :: x 230 :: x 231 :: x 232 :: x 233 :: [])

theorem list_lit (l : List Value) (n : Nat) (h : l.length = n) : l = (List.range n).map fun j => l.getD j undef := by
  apply List.ext_getElem (by simp [h])
  intro i h1 h2
  simp [List.getD, List.getElem?_eq_getElem h1]

set_option maxRecDepth 100000 in
theorem range_lit (x : Nat → Value) : (List.range 234).map x = x 0 :: x 1 :: x 2 :: x 3 :: x 4 :: x 5 :: x 6 :: x 7 :: x 8 :: x 9 :: x 10 :: x 11 :: x 12 :: x 13 :: x 14 :: x 15 :: x 16 :: x 17 :: x 18 :: x 19 :: x 20 :: x 21 :: x 22 :: x 23 :: x 24 :: x 25 :: x 26 :: x 27 :: x 28 :: x 29 :: x 30 :: x 31 :: x 32 :: x 33 :: x 34 :: x 35 :: x 36 :: x 37 :: x 38 :: x 39 :: x 40 :: x 41 :: x 42 :: x 43 :: x 44 :: x 45 :: x 46 :: x 47 :: x 48 :: x 49 :: x 50 :: x 51 :: x 52 :: x 53 :: x 54 :: x 55 :: x 56 :: x 57 :: x 58 :: x 59 :: x 60 :: x 61 :: x 62 :: x 63 :: x 64 :: x 65 :: x 66 :: x 67 :: x 68 :: x 69 :: x 70 :: x 71 :: x 72 :: x 73 :: x 74 :: x 75 :: x 76 :: x 77 :: x 78 :: x 79 :: x 80 :: x 81 :: x 82 :: x 83 :: x 84 :: x 85 :: x 86 :: x 87 :: x 88 :: x 89 :: x 90 :: x 91 :: x 92 :: x 93 :: x 94 :: x 95 :: x 96 :: x 97 :: x 98 :: x 99 :: x 100 :: x 101 :: x 102 :: x 103 :: x 104 :: x 105 :: x 106 :: x 107 :: x 108 :: x 109 :: x 110 :: x 111 :: x 112 :: x 113 :: x 114 :: x 115 :: x 116 :: x 117 :: x 118 :: x 119 :: x 120 :: x 121 :: x 122 :: x 123 :: x 124 :: x 125 :: x 126 :: x 127 :: x 128 :: x 129 :: x 130 :: x 131 :: x 132 :: x 133 :: x 134 :: x 135 :: x 136 :: x 137 :: x 138 :: x 139 :: x 140 :: x 141 :: x 142 :: x 143 :: x 144 :: x 145 :: x 146 :: x 147 :: x 148 :: x 149 :: x 150 :: x 151 :: x 152 :: x 153 :: x 154 :: x 155 :: x 156 :: x 157 :: x 158 :: x 159 :: x 160 :: x 161 :: x 162 :: x 163 :: x 164 :: x 165 :: x 166 :: x 167 :: x 168 :: x 169 :: x 170 :: x 171 :: x 172 :: x 173 :: x 174 :: x 175 :: x 176 :: x 177 :: x 178 :: x 179 :: x 180 :: x 181 :: x 182 :: x 183 :: x 184 :: x 185 :: x 186 :: x 187 :: x 188 :: x 189 :: x 190 :: x 191 :: x 192 :: x 193 :: x 194 :: x 195 :: x 196 :: x 197 :: x 198 :: x 199 :: x 200 :: x 201 :: x 202 :: x 203 :: x 204 :: x 205 :: x 206 :: x 207 :: x 208 :: x 209 :: x 210 :: x 211 :: x 212 :: x 213 :: x 214 :: x 215 :: x 216 :: x 217 :: x 218 :: x 219 :: x 220 :: x 221 :: x 222 :: x 223 :: x 224 :: x 225 :: x 226 :: x 227 :: x 228 :: x 229 :: x 230 :: x 231 :: x 232 :: x 233 :: [] := rfl

set_option maxRecDepth 100000 in
theorem Fr.lit {t : Array Value} {v0 v2 v3 v4 v5 v7 v8 v9 v10 v11 v38 v39 : Value} (h : Fr t v0 v2 v3 v4 v5 v7 v8 v9 v10 v11 v38 v39) : ∃ x : Nat → Value, t = lit v0 v2 v3 v4 v5 v7 v8 v9 v10 v11 v38 v39 x := by
  obtain ⟨hs, h0, h2, h3, h4, h5, h7, h8, h9, h10, h11, h38, h39⟩ := h
  obtain ⟨x, hx⟩ : ∃ x : Nat → Value, x = fun j => t.toList.getD j undef := ⟨_, rfl⟩
  have hh := list_lit t.toList 234 (by simpa using hs)
  have ex : ∀ i v, t[i]? = some v → x i = v := by
    intro i v hv
    rw [hx]
    simp only [List.getD, Array.getElem?_toList, hv, Option.getD_some]
  rw [← hx, range_lit] at hh
  refine ⟨x, ?_⟩
  have ht : t = List.toArray t.toList := by simp
  rw [ht, hh]
  unfold Go.Proofs.Qxb6602016a.lit
  rw [ex 0 v0 h0, ex 2 v2 h2, ex 3 v3 h3, ex 4 v4 h4, ex 5 v5 h5, ex 7 v7 h7, ex 8 v8 h8, ex 9 v9 h9, ex 10 v10 h10, ex 11 v11 h11, ex 38 v38 h38, ex 39 v39 h39]

end Go.Proofs.Qxb6602016a
