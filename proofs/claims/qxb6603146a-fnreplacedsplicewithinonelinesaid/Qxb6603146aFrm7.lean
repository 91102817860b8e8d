import Derived.Test.Qxb6603146aZz
namespace Go.Proofs.Qxb6603146a
open Go.RowKit Go.Deep

/-- What lies in the slots that the law hands on from statement to statement. -/
structure Fr7 (a : Act) (x0 x1 x2 x3 x4 x5 x6 x7 x8 x9 x10 x11 x25 x26 x27 x28 x29 x30 x31 x32 : Value) : Prop where
  defers : a = ⟨a.tmps, []⟩
  size : a.tmps.size = 295
  s0 : a.tmps[0]? = some x0
  s1 : a.tmps[1]? = some x1
  s2 : a.tmps[2]? = some x2
  s3 : a.tmps[3]? = some x3
  s4 : a.tmps[4]? = some x4
  s5 : a.tmps[5]? = some x5
  s6 : a.tmps[6]? = some x6
  s7 : a.tmps[7]? = some x7
  s8 : a.tmps[8]? = some x8
  s9 : a.tmps[9]? = some x9
  s10 : a.tmps[10]? = some x10
  s11 : a.tmps[11]? = some x11
  s25 : a.tmps[25]? = some x25
  s26 : a.tmps[26]? = some x26
  s27 : a.tmps[27]? = some x27
  s28 : a.tmps[28]? = some x28
  s29 : a.tmps[29]? = some x29
  s30 : a.tmps[30]? = some x30
  s31 : a.tmps[31]? = some x31
  s32 : a.tmps[32]? = some x32

set_option maxRecDepth 100000 in
theorem fr7_lit {a : Act} {x0 x1 x2 x3 x4 x5 x6 x7 x8 x9 x10 x11 x25 x26 x27 x28 x29 x30 x31 x32 : Value} (h : Fr7 a x0 x1 x2 x3 x4 x5 x6 x7 x8 x9 x10 x11 x25 x26 x27 x28 x29 x30 x31 x32) : ∃ u : Nat → Value, a = ⟨(x0 :: x1 :: x2 :: x3 :: x4 :: x5 :: x6 :: x7 :: x8 :: x9 :: x10 :: x11 :: u 12 :: u 13 :: u 14 :: u 15 :: u 16 :: u 17 :: u 18 :: u 19 :: u 20 :: u 21 :: u 22 :: u 23 :: u 24 :: x25 :: x26 :: x27 :: x28 :: x29 :: x30 :: x31 :: x32 :: u 33 :: u 34 :: u 35 :: u 36 :: u 37 :: u 38 :: u 39 :: u 40 :: u 41 :: u 42 :: u 43 :: u 44 :: u 45 :: u 46 :: u 47 :: u 48 :: u 49 :: u 50 :: u 51 :: u 52 :: u 53 :: u 54 :: u 55 :: u 56 :: u 57 :: u 58 :: u 59 :: u 60 :: u 61 :: u 62 :: u 63 :: u 64 :: u 65 :: u 66 :: u 67 :: u 68 :: u 69 :: u 70 :: u 71 :: u 72 :: u 73 :: u 74 :: u 75 :: u 76 :: u 77 :: u 78 :: u 79 :: u 80 :: u 81 :: u 82 :: u 83 :: u 84 :: u 85 :: u 86 :: u 87 :: u 88 :: u 89 :: u 90 :: u 91 :: u 92 :: u 93 :: u 94 :: u 95 :: u 96 :: u 97 :: u 98 :: u 99 :: u 100 :: u 101 :: u 102 :: u 103 :: u 104 :: u 105 :: u 106 :: u 107 :: u 108 :: u 109 :: u 110 :: u 111 :: u 112 :: u 113 :: u 114 :: u 115 :: u 116 :: u 117 :: u 118 :: u 119 :: u 120 :: u 121 :: u 122 :: u 123 :: u 124 :: u 125 :: u 126 :: u 127 :: u 128 :: u 129 :: u 130 :: u 131 :: u 132 :: u 133 :: u 134 :: u 135 :: u 136 :: u 137 :: u 138 :: u 139 :: u 140 :: u 141 :: u 142 :: u 143 :: u 144 :: u 145 :: u 146 :: u 147 :: u 148 :: u 149 :: u 150 :: u 151 :: u 152 :: u 153 :: u 154 :: u 155 :: u 156 :: u 157 :: u 158 :: u 159 :: u 160 :: u 161 :: u 162 :: u 163 :: u 164 :: u 165 :: u 166 :: u 167 :: u 168 :: u 169 :: u 170 :: u 171 :: u 172 :: u 173 :: u 174 :: u 175 :: u 176 :: u 177 :: u 178 :: u 179 :: u 180 :: u 181 :: u 182 :: u 183 :: u 184 :: u 185 :: u 186 :: u 187 :: u 188 :: u 189 :: u 190 :: u 191 :: u 192 :: u 193 :: u 194 :: u 195 :: u 196 :: u 197 :: u 198 :: u 199 :: u 200 :: u 201 :: u 202 :: u 203 :: u 204 :: u 205 :: u 206 :: u 207 :: u 208 :: u 209 :: u 210 :: u 211 :: u 212 :: u 213 :: u 214 :: u 215 :: u 216 :: u 217 :: u 218 :: u 219 :: u 220 :: u 221 :: u 222 :: u 223 :: u 224 :: u 225 :: u 226 :: u 227 :: u 228 :: u 229 :: u 230 :: u 231 :: u 232 :: u 233 :: u 234 :: u 235 :: u 236 :: u 237 :: u 238 :: u 239 :: u 240 :: u 241 :: u 242 :: u 243 :: u 244 :: u 245 :: u 246 :: u 247 :: u 248 :: u 249 :: u 250 :: u 251 :: u 252 :: u 253 :: u 254 :: u 255 :: u 256 :: u 257 :: u 258 :: u 259 :: u 260 :: u 261 :: u 262 :: u 263 :: u 264 :: u 265 :: u 266 :: u 267 :: u 268 :: u 269 :: u 270 :: u 271 :: u 272 :: u 273 :: u 274 :: u 275 :: u 276 :: u 277 :: u 278 :: u 279 :: u 280 :: u 281 :: u 282 :: u 283 :: u 284 :: u 285 :: u 286 :: u 287 :: u 288 :: u 289 :: u 290 :: u 291 :: u 292 :: u 293 :: u 294 :: []).toArray, []⟩ := by
  obtain ⟨hd, hs, h0, h1, h2, h3, h4, h5, h6, h7, h8, h9, h10, h11, h25, h26, h27, h28, h29, h30, h31, h32⟩ := h
  have key : ∀ t : Array Value, t.size = 295 → t = ((List.range 295).map (fun i => t[i]?.getD undef)).toArray := by
    intro t ht
    apply Array.ext
    · simp [ht]
    · intro i h1 h2
      simp [h1]
  refine ⟨fun i => a.tmps[i]?.getD undef, ?_⟩
  rw [hd]
  congr 1
  have k := key a.tmps hs
  have e0 : a.tmps[0]?.getD undef = x0 := by rw [h0]; rfl
  have e1 : a.tmps[1]?.getD undef = x1 := by rw [h1]; rfl
  have e2 : a.tmps[2]?.getD undef = x2 := by rw [h2]; rfl
  have e3 : a.tmps[3]?.getD undef = x3 := by rw [h3]; rfl
  have e4 : a.tmps[4]?.getD undef = x4 := by rw [h4]; rfl
  have e5 : a.tmps[5]?.getD undef = x5 := by rw [h5]; rfl
  have e6 : a.tmps[6]?.getD undef = x6 := by rw [h6]; rfl
  have e7 : a.tmps[7]?.getD undef = x7 := by rw [h7]; rfl
  have e8 : a.tmps[8]?.getD undef = x8 := by rw [h8]; rfl
  have e9 : a.tmps[9]?.getD undef = x9 := by rw [h9]; rfl
  have e10 : a.tmps[10]?.getD undef = x10 := by rw [h10]; rfl
  have e11 : a.tmps[11]?.getD undef = x11 := by rw [h11]; rfl
  have e25 : a.tmps[25]?.getD undef = x25 := by rw [h25]; rfl
  have e26 : a.tmps[26]?.getD undef = x26 := by rw [h26]; rfl
  have e27 : a.tmps[27]?.getD undef = x27 := by rw [h27]; rfl
  have e28 : a.tmps[28]?.getD undef = x28 := by rw [h28]; rfl
  have e29 : a.tmps[29]?.getD undef = x29 := by rw [h29]; rfl
  have e30 : a.tmps[30]?.getD undef = x30 := by rw [h30]; rfl
  have e31 : a.tmps[31]?.getD undef = x31 := by rw [h31]; rfl
  have e32 : a.tmps[32]?.getD undef = x32 := by rw [h32]; rfl
  refine k.trans ?_
  rw [← e0, ← e1, ← e2, ← e3, ← e4, ← e5, ← e6, ← e7, ← e8, ← e9, ← e10, ← e11, ← e25, ← e26, ← e27, ← e28, ← e29, ← e30, ← e31, ← e32]
  rfl

theorem entry7 (a0 a1 a2 a3 a4 a5 a6 a7 a8 a9 a10 a11 : Value) : Fr7 ⟨#[a0, a1, a2, a3, a4, a5, a6, a7, a8, a9, a10, a11] ++ Array.replicate (Try.f7.ntmps - (#[a0, a1, a2, a3, a4, a5, a6, a7, a8, a9, a10, a11] : Array Value).size) undef, []⟩ a0 a1 a2 a3 a4 a5 a6 a7 a8 a9 a10 a11 undef undef undef undef undef undef undef undef := by
  rw [Try.ntmps7]
  refine ⟨rfl, ?_, ?_, ?_, ?_, ?_, ?_, ?_, ?_, ?_, ?_, ?_, ?_, ?_, ?_, ?_, ?_, ?_, ?_, ?_, ?_, ?_⟩ <;> simp
end Go.Proofs.Qxb6603146a
