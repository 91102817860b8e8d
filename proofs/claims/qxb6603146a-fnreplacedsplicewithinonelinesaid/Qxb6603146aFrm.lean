import Derived.Test.Qxb6603146aStep
namespace Go.Proofs.Qxb6603146a
open Go.RowKit Go.Deep

/-- The region numbered n of a body. -/
def regOf (n : Nat) : Code → Option Code
  | .region i ops d => if i = n then some (.region i ops d) else none
  | .seq a b => match regOf n a with
    | some c => some c
    | none => regOf n b
  | .block _ c => regOf n c
  | .scope c => regOf n c
  | .cond _ a b => match regOf n a with
    | some c => some c
    | none => regOf n b
  | _ => none
/-- The region numbered n of a function. -/
def Reg (f : Func) (n : Nat) : Code := ((f.body.bind (regOf n)).getD .skip)

/-- What lies in the slots that the body hands on from statement to statement. -/
structure Fr (a : Act) (x0 x2 x4 x7 x8 x9 x10 x11 : Value) : Prop where
  defers : a = ⟨a.tmps, []⟩
  size : a.tmps.size = 263
  s0 : a.tmps[0]? = some x0
  s2 : a.tmps[2]? = some x2
  s4 : a.tmps[4]? = some x4
  s7 : a.tmps[7]? = some x7
  s8 : a.tmps[8]? = some x8
  s9 : a.tmps[9]? = some x9
  s10 : a.tmps[10]? = some x10
  s11 : a.tmps[11]? = some x11

set_option maxRecDepth 100000 in
theorem fr_lit {a : Act} {x0 x2 x4 x7 x8 x9 x10 x11 : Value} (h : Fr a x0 x2 x4 x7 x8 x9 x10 x11) : ∃ u : Nat → Value, a = ⟨(x0 :: u 1 :: x2 :: u 3 :: x4 :: u 5 :: u 6 :: x7 :: x8 :: x9 :: x10 :: x11 :: u 12 :: u 13 :: u 14 :: u 15 :: u 16 :: u 17 :: u 18 :: u 19 :: u 20 :: u 21 :: u 22 :: u 23 :: u 24 :: u 25 :: u 26 :: u 27 :: u 28 :: u 29 :: u 30 :: u 31 :: u 32 :: u 33 :: u 34 :: u 35 :: u 36 :: u 37 :: u 38 :: u 39 :: u 40 :: u 41 :: u 42 :: u 43 :: u 44 :: u 45 :: u 46 :: u 47 :: u 48 :: u 49 :: u 50 :: u 51 :: u 52 :: u 53 :: u 54 :: u 55 :: u 56 :: u 57 :: u 58 :: u 59 :: u 60 :: u 61 :: u 62 :: u 63 :: u 64 :: u 65 :: u 66 :: u 67 :: u 68 :: u 69 :: u 70 :: u 71 :: u 72 :: u 73 :: u 74 :: u 75 :: u 76 :: u 77 :: u 78 :: u 79 :: u 80 :: u 81 :: u 82 :: u 83 :: u 84 :: u 85 :: u 86 :: u 87 :: u 88 :: u 89 :: u 90 :: u 91 :: u 92 :: u 93 :: u 94 :: u 95 :: u 96 :: u 97 :: u 98 :: u 99 :: u 100 :: u 101 :: u 102 :: u 103 :: u 104 :: u 105 :: u 106 :: u 107 :: u 108 :: u 109 :: u 110 :: u 111 :: u 112 :: u 113 :: u 114 :: u 115 :: u 116 :: u 117 :: u 118 :: u 119 :: u 120 :: u 121 :: u 122 :: u 123 :: u 124 :: u 125 :: u 126 :: u 127 :: u 128 :: u 129 :: u 130 :: u 131 :: u 132 :: u 133 :: u 134 :: u 135 :: u 136 :: u 137 :: u 138 :: u 139 :: u 140 :: u 141 :: u 142 :: u 143 :: u 144 :: u 145 :: u 146 :: u 147 :: u 148 :: u 149 :: u 150 :: u 151 :: u 152 :: u 153 :: u 154 :: u 155 :: u 156 :: u 157 :: u 158 :: u 159 :: u 160 :: u 161 :: u 162 :: u 163 :: u 164 :: u 165 :: u 166 :: u 167 :: u 168 :: u 169 :: u 170 :: u 171 :: u 172 :: u 173 :: u 174 :: u 175 :: u 176 :: u 177 :: u 178 :: u 179 :: u 180 :: u 181 :: u 182 :: u 183 :: u 184 :: u 185 :: u 186 :: u 187 :: u 188 :: u 189 :: u 190 :: u 191 :: u 192 :: u 193 :: u 194 :: u 195 :: u 196 :: u 197 :: u 198 :: u 199 :: u 200 :: u 201 :: u 202 :: u 203 :: u 204 :: u 205 :: u 206 :: u 207 :: u 208 :: u 209 :: u 210 :: u 211 :: u 212 :: u 213 :: u 214 :: u 215 :: u 216 :: u 217 :: u 218 :: u 219 :: u 220 :: u 221 :: u 222 :: u 223 :: u 224 :: u 225 :: u 226 :: u 227 :: u 228 :: u 229 :: u 230 :: u 231 :: u 232 :: u 233 :: u 234 :: u 235 :: u 236 :: u 237 :: u 238 :: u 239 :: u 240 :: u 241 :: u 242 :: u 243 :: u 244 :: u 245 :: u 246 :: u 247 :: u 248 :: u 249 :: u 250 :: u 251 :: u 252 :: u 253 :: u 254 :: u 255 :: u 256 :: u 257 :: u 258 :: u 259 :: u 260 :: u 261 :: u 262 :: []).toArray, []⟩ := by
  obtain ⟨hd, hs, h0, h2, h4, h7, h8, h9, h10, h11⟩ := h
  have key : ∀ t : Array Value, t.size = 263 → t = ((List.range 263).map (fun i => t[i]?.getD undef)).toArray := by
    intro t ht
    apply Array.ext
    · simp [ht]
    · intro i h1 h2
      simp [h1]
  refine ⟨fun i => a.tmps[i]?.getD undef, ?_⟩
  rw [hd]
  congr 1
  have k := key a.tmps hs
  have e0 : a.tmps[0]?.getD undef = x0 := by rw [h0]; rfl
  have e2 : a.tmps[2]?.getD undef = x2 := by rw [h2]; rfl
  have e4 : a.tmps[4]?.getD undef = x4 := by rw [h4]; rfl
  have e7 : a.tmps[7]?.getD undef = x7 := by rw [h7]; rfl
  have e8 : a.tmps[8]?.getD undef = x8 := by rw [h8]; rfl
  have e9 : a.tmps[9]?.getD undef = x9 := by rw [h9]; rfl
  have e10 : a.tmps[10]?.getD undef = x10 := by rw [h10]; rfl
  have e11 : a.tmps[11]?.getD undef = x11 := by rw [h11]; rfl
  refine k.trans ?_
  rw [← e0, ← e2, ← e4, ← e7, ← e8, ← e9, ← e10, ← e11]
  rfl
end Go.Proofs.Qxb6603146a
