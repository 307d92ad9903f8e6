import Derived.Test.Qxb6602963aStp
import Derived.Deep.CutBlock
namespace Go.Proofs.Qxb6602963a
open Go.RowKit
set_option linter.unusedVariables false

theorem cell_two_new (w : World) (x y : Value) (t : TypeId) : ∀ j u, [x, y][j]? = some u → (w.alloc (.cells #[x, y] t)).cell? ((⟨w.heap.size, 0, none⟩ : Addr).add j) = some u := by
  intro j u hj
  match j, hj with
  | 0, hj => simp at hj; subst hj; simp [Addr.add]
  | 1, hj => simp at hj; subst hj; simp [Addr.add]
  | j + 2, hj => simp at hj
theorem Try.underlying56 : Try.prog.underlying 56 = some (.slice 55) := by kernel_rfl

/-- what the region of line 69 leaves -/
def M69 (wr : World) (m : Nat) (s15 s16 s17 s18 : Value) (wx : World) : Prop :=
  ∃ f : Nat → Nat, s15 = .pointer (some ⟨f 8, 0, none⟩) ∧ s16 = .pointer (some ⟨f 9, 0, none⟩) ∧ s17 = .pointer (some ⟨f 10, 0, none⟩) ∧ s18 = .slice (some ⟨f 7, 0, none⟩) m m ∧ (∀ i, isAl i → wr.heap.size ≤ f i ∧ f i < wx.heap.size) ∧ (∀ i j, isAl i → isAl j → i ≠ j → f i ≠ f j) ∧
    (∀ i, i < 8 → i % 2 = 1 → Arr wx (f i) m (fun _ => 0)) ∧ (∀ i, 8 ≤ i → i < 11 → wx.heap[f i]? = some (.cells #[.slice (some ⟨f (2 * i - 15), 0, none⟩) m m] 22 (0, 0))) ∧ Below wr.heap.size wr wx

set_option maxRecDepth 100000 in
theorem act_329 (a : Act) (h : a.tmps.size = 329) : a = ⟨[a.tmps.getD 0 undef, a.tmps.getD 1 undef, a.tmps.getD 2 undef, a.tmps.getD 3 undef, a.tmps.getD 4 undef, a.tmps.getD 5 undef, a.tmps.getD 6 undef, a.tmps.getD 7 undef, a.tmps.getD 8 undef, a.tmps.getD 9 undef, a.tmps.getD 10 undef, a.tmps.getD 11 undef, a.tmps.getD 12 undef, a.tmps.getD 13 undef, a.tmps.getD 14 undef, a.tmps.getD 15 undef, a.tmps.getD 16 undef, a.tmps.getD 17 undef, a.tmps.getD 18 undef, a.tmps.getD 19 undef, a.tmps.getD 20 undef, a.tmps.getD 21 undef, a.tmps.getD 22 undef, a.tmps.getD 23 undef, a.tmps.getD 24 undef, a.tmps.getD 25 undef, a.tmps.getD 26 undef, a.tmps.getD 27 undef, a.tmps.getD 28 undef, a.tmps.getD 29 undef, a.tmps.getD 30 undef, a.tmps.getD 31 undef, a.tmps.getD 32 undef, a.tmps.getD 33 undef, a.tmps.getD 34 undef, a.tmps.getD 35 undef, a.tmps.getD 36 undef, a.tmps.getD 37 undef, a.tmps.getD 38 undef, a.tmps.getD 39 undef, a.tmps.getD 40 undef, a.tmps.getD 41 undef, a.tmps.getD 42 undef, a.tmps.getD 43 undef, a.tmps.getD 44 undef, a.tmps.getD 45 undef, a.tmps.getD 46 undef, a.tmps.getD 47 undef, a.tmps.getD 48 undef, a.tmps.getD 49 undef, a.tmps.getD 50 undef, a.tmps.getD 51 undef, a.tmps.getD 52 undef, a.tmps.getD 53 undef, a.tmps.getD 54 undef, a.tmps.getD 55 undef, a.tmps.getD 56 undef, a.tmps.getD 57 undef, a.tmps.getD 58 undef, a.tmps.getD 59 undef, a.tmps.getD 60 undef, a.tmps.getD 61 undef, a.tmps.getD 62 undef, a.tmps.getD 63 undef, a.tmps.getD 64 undef, a.tmps.getD 65 undef, a.tmps.getD 66 undef, a.tmps.getD 67 undef, a.tmps.getD 68 undef, a.tmps.getD 69 undef, a.tmps.getD 70 undef, a.tmps.getD 71 undef, a.tmps.getD 72 undef, a.tmps.getD 73 undef, a.tmps.getD 74 undef, a.tmps.getD 75 undef, a.tmps.getD 76 undef, a.tmps.getD 77 undef, a.tmps.getD 78 undef, a.tmps.getD 79 undef, a.tmps.getD 80 undef, a.tmps.getD 81 undef, a.tmps.getD 82 undef, a.tmps.getD 83 undef, a.tmps.getD 84 undef, a.tmps.getD 85 undef, a.tmps.getD 86 undef, a.tmps.getD 87 undef, a.tmps.getD 88 undef, a.tmps.getD 89 undef, a.tmps.getD 90 undef, a.tmps.getD 91 undef, a.tmps.getD 92 undef, a.tmps.getD 93 undef, a.tmps.getD 94 undef, a.tmps.getD 95 undef, a.tmps.getD 96 undef, a.tmps.getD 97 undef, a.tmps.getD 98 undef, a.tmps.getD 99 undef, a.tmps.getD 100 undef, a.tmps.getD 101 undef, a.tmps.getD 102 undef, a.tmps.getD 103 undef, a.tmps.getD 104 undef, a.tmps.getD 105 undef, a.tmps.getD 106 undef, a.tmps.getD 107 undef, a.tmps.getD 108 undef, a.tmps.getD 109 undef, a.tmps.getD 110 undef, a.tmps.getD 111 undef, a.tmps.getD 112 undef, a.tmps.getD 113 undef, a.tmps.getD 114 undef, a.tmps.getD 115 undef, a.tmps.getD 116 undef, a.tmps.getD 117 undef, a.tmps.getD 118 undef, a.tmps.getD 119 undef, a.tmps.getD 120 undef, a.tmps.getD 121 undef, a.tmps.getD 122 undef, a.tmps.getD 123 undef, a.tmps.getD 124 undef, a.tmps.getD 125 undef, a.tmps.getD 126 undef, a.tmps.getD 127 undef, a.tmps.getD 128 undef, a.tmps.getD 129 undef, a.tmps.getD 130 undef, a.tmps.getD 131 undef, a.tmps.getD 132 undef, a.tmps.getD 133 undef, a.tmps.getD 134 undef, a.tmps.getD 135 undef, a.tmps.getD 136 undef, a.tmps.getD 137 undef, a.tmps.getD 138 undef, a.tmps.getD 139 undef, a.tmps.getD 140 undef, a.tmps.getD 141 undef, a.tmps.getD 142 undef, a.tmps.getD 143 undef, a.tmps.getD 144 undef, a.tmps.getD 145 undef, a.tmps.getD 146 undef, a.tmps.getD 147 undef, a.tmps.getD 148 undef, a.tmps.getD 149 undef, a.tmps.getD 150 undef, a.tmps.getD 151 undef, a.tmps.getD 152 undef, a.tmps.getD 153 undef, a.tmps.getD 154 undef, a.tmps.getD 155 undef, a.tmps.getD 156 undef, a.tmps.getD 157 undef, a.tmps.getD 158 undef, a.tmps.getD 159 undef, a.tmps.getD 160 undef, a.tmps.getD 161 undef, a.tmps.getD 162 undef, a.tmps.getD 163 undef, a.tmps.getD 164 undef, a.tmps.getD 165 undef, a.tmps.getD 166 undef, a.tmps.getD 167 undef, a.tmps.getD 168 undef, a.tmps.getD 169 undef, a.tmps.getD 170 undef, a.tmps.getD 171 undef, a.tmps.getD 172 undef, a.tmps.getD 173 undef, a.tmps.getD 174 undef, a.tmps.getD 175 undef, a.tmps.getD 176 undef, a.tmps.getD 177 undef, a.tmps.getD 178 undef, a.tmps.getD 179 undef, a.tmps.getD 180 undef, a.tmps.getD 181 undef, a.tmps.getD 182 undef, a.tmps.getD 183 undef, a.tmps.getD 184 undef, a.tmps.getD 185 undef, a.tmps.getD 186 undef, a.tmps.getD 187 undef, a.tmps.getD 188 undef, a.tmps.getD 189 undef, a.tmps.getD 190 undef, a.tmps.getD 191 undef, a.tmps.getD 192 undef, a.tmps.getD 193 undef, a.tmps.getD 194 undef, a.tmps.getD 195 undef, a.tmps.getD 196 undef, a.tmps.getD 197 undef, a.tmps.getD 198 undef, a.tmps.getD 199 undef, a.tmps.getD 200 undef, a.tmps.getD 201 undef, a.tmps.getD 202 undef, a.tmps.getD 203 undef, a.tmps.getD 204 undef, a.tmps.getD 205 undef, a.tmps.getD 206 undef, a.tmps.getD 207 undef, a.tmps.getD 208 undef, a.tmps.getD 209 undef, a.tmps.getD 210 undef, a.tmps.getD 211 undef, a.tmps.getD 212 undef, a.tmps.getD 213 undef, a.tmps.getD 214 undef, a.tmps.getD 215 undef, a.tmps.getD 216 undef, a.tmps.getD 217 undef, a.tmps.getD 218 undef, a.tmps.getD 219 undef, a.tmps.getD 220 undef, a.tmps.getD 221 undef, a.tmps.getD 222 undef, a.tmps.getD 223 undef, a.tmps.getD 224 undef, a.tmps.getD 225 undef, a.tmps.getD 226 undef, a.tmps.getD 227 undef, a.tmps.getD 228 undef, a.tmps.getD 229 undef, a.tmps.getD 230 undef, a.tmps.getD 231 undef, a.tmps.getD 232 undef, a.tmps.getD 233 undef, a.tmps.getD 234 undef, a.tmps.getD 235 undef, a.tmps.getD 236 undef, a.tmps.getD 237 undef, a.tmps.getD 238 undef, a.tmps.getD 239 undef, a.tmps.getD 240 undef, a.tmps.getD 241 undef, a.tmps.getD 242 undef, a.tmps.getD 243 undef, a.tmps.getD 244 undef, a.tmps.getD 245 undef, a.tmps.getD 246 undef, a.tmps.getD 247 undef, a.tmps.getD 248 undef, a.tmps.getD 249 undef, a.tmps.getD 250 undef, a.tmps.getD 251 undef, a.tmps.getD 252 undef, a.tmps.getD 253 undef, a.tmps.getD 254 undef, a.tmps.getD 255 undef, a.tmps.getD 256 undef, a.tmps.getD 257 undef, a.tmps.getD 258 undef, a.tmps.getD 259 undef, a.tmps.getD 260 undef, a.tmps.getD 261 undef, a.tmps.getD 262 undef, a.tmps.getD 263 undef, a.tmps.getD 264 undef, a.tmps.getD 265 undef, a.tmps.getD 266 undef, a.tmps.getD 267 undef, a.tmps.getD 268 undef, a.tmps.getD 269 undef, a.tmps.getD 270 undef, a.tmps.getD 271 undef, a.tmps.getD 272 undef, a.tmps.getD 273 undef, a.tmps.getD 274 undef, a.tmps.getD 275 undef, a.tmps.getD 276 undef, a.tmps.getD 277 undef, a.tmps.getD 278 undef, a.tmps.getD 279 undef, a.tmps.getD 280 undef, a.tmps.getD 281 undef, a.tmps.getD 282 undef, a.tmps.getD 283 undef, a.tmps.getD 284 undef, a.tmps.getD 285 undef, a.tmps.getD 286 undef, a.tmps.getD 287 undef, a.tmps.getD 288 undef, a.tmps.getD 289 undef, a.tmps.getD 290 undef, a.tmps.getD 291 undef, a.tmps.getD 292 undef, a.tmps.getD 293 undef, a.tmps.getD 294 undef, a.tmps.getD 295 undef, a.tmps.getD 296 undef, a.tmps.getD 297 undef, a.tmps.getD 298 undef, a.tmps.getD 299 undef, a.tmps.getD 300 undef, a.tmps.getD 301 undef, a.tmps.getD 302 undef, a.tmps.getD 303 undef, a.tmps.getD 304 undef, a.tmps.getD 305 undef, a.tmps.getD 306 undef, a.tmps.getD 307 undef, a.tmps.getD 308 undef, a.tmps.getD 309 undef, a.tmps.getD 310 undef, a.tmps.getD 311 undef, a.tmps.getD 312 undef, a.tmps.getD 313 undef, a.tmps.getD 314 undef, a.tmps.getD 315 undef, a.tmps.getD 316 undef, a.tmps.getD 317 undef, a.tmps.getD 318 undef, a.tmps.getD 319 undef, a.tmps.getD 320 undef, a.tmps.getD 321 undef, a.tmps.getD 322 undef, a.tmps.getD 323 undef, a.tmps.getD 324 undef, a.tmps.getD 325 undef, a.tmps.getD 326 undef, a.tmps.getD 327 undef, a.tmps.getD 328 undef].toArray, a.defers⟩ := by
  have h1 : a.tmps.toList = (List.range 329).map (fun t => a.tmps.getD t undef) := by
    apply List.ext_getElem (by simp [h])
    intro i h2 h3
    have h4 : i < a.tmps.size := by simpa using h2
    simp [Array.getD_eq_getD_getElem?, h4]
  have h5 : (List.range 329).map (fun t => a.tmps.getD t undef) = [a.tmps.getD 0 undef, a.tmps.getD 1 undef, a.tmps.getD 2 undef, a.tmps.getD 3 undef, a.tmps.getD 4 undef, a.tmps.getD 5 undef, a.tmps.getD 6 undef, a.tmps.getD 7 undef, a.tmps.getD 8 undef, a.tmps.getD 9 undef, a.tmps.getD 10 undef, a.tmps.getD 11 undef, a.tmps.getD 12 undef, a.tmps.getD 13 undef, a.tmps.getD 14 undef, a.tmps.getD 15 undef, a.tmps.getD 16 undef, a.tmps.getD 17 undef, a.tmps.getD 18 undef, a.tmps.getD 19 undef, a.tmps.getD 20 undef, a.tmps.getD 21 undef, a.tmps.getD 22 undef, a.tmps.getD 23 undef, a.tmps.getD 24 undef, a.tmps.getD 25 undef, a.tmps.getD 26 undef, a.tmps.getD 27 undef, a.tmps.getD 28 undef, a.tmps.getD 29 undef, a.tmps.getD 30 undef, a.tmps.getD 31 undef, a.tmps.getD 32 undef, a.tmps.getD 33 undef, a.tmps.getD 34 undef, a.tmps.getD 35 undef, a.tmps.getD 36 undef, a.tmps.getD 37 undef, a.tmps.getD 38 undef, a.tmps.getD 39 undef, a.tmps.getD 40 undef, a.tmps.getD 41 undef, a.tmps.getD 42 undef, a.tmps.getD 43 undef, a.tmps.getD 44 undef, a.tmps.getD 45 undef, a.tmps.getD 46 undef, a.tmps.getD 47 undef, a.tmps.getD 48 undef, a.tmps.getD 49 undef, a.tmps.getD 50 undef, a.tmps.getD 51 undef, a.tmps.getD 52 undef, a.tmps.getD 53 undef, a.tmps.getD 54 undef, a.tmps.getD 55 undef, a.tmps.getD 56 undef, a.tmps.getD 57 undef, a.tmps.getD 58 undef, a.tmps.getD 59 undef, a.tmps.getD 60 undef, a.tmps.getD 61 undef, a.tmps.getD 62 undef, a.tmps.getD 63 undef, a.tmps.getD 64 undef, a.tmps.getD 65 undef, a.tmps.getD 66 undef, a.tmps.getD 67 undef, a.tmps.getD 68 undef, a.tmps.getD 69 undef, a.tmps.getD 70 undef, a.tmps.getD 71 undef, a.tmps.getD 72 undef, a.tmps.getD 73 undef, a.tmps.getD 74 undef, a.tmps.getD 75 undef, a.tmps.getD 76 undef, a.tmps.getD 77 undef, a.tmps.getD 78 undef, a.tmps.getD 79 undef, a.tmps.getD 80 undef, a.tmps.getD 81 undef, a.tmps.getD 82 undef, a.tmps.getD 83 undef, a.tmps.getD 84 undef, a.tmps.getD 85 undef, a.tmps.getD 86 undef, a.tmps.getD 87 undef, a.tmps.getD 88 undef, a.tmps.getD 89 undef, a.tmps.getD 90 undef, a.tmps.getD 91 undef, a.tmps.getD 92 undef, a.tmps.getD 93 undef, a.tmps.getD 94 undef, a.tmps.getD 95 undef, a.tmps.getD 96 undef, a.tmps.getD 97 undef, a.tmps.getD 98 undef, a.tmps.getD 99 undef, a.tmps.getD 100 undef, a.tmps.getD 101 undef, a.tmps.getD 102 undef, a.tmps.getD 103 undef, a.tmps.getD 104 undef, a.tmps.getD 105 undef, a.tmps.getD 106 undef, a.tmps.getD 107 undef, a.tmps.getD 108 undef, a.tmps.getD 109 undef, a.tmps.getD 110 undef, a.tmps.getD 111 undef, a.tmps.getD 112 undef, a.tmps.getD 113 undef, a.tmps.getD 114 undef, a.tmps.getD 115 undef, a.tmps.getD 116 undef, a.tmps.getD 117 undef, a.tmps.getD 118 undef, a.tmps.getD 119 undef, a.tmps.getD 120 undef, a.tmps.getD 121 undef, a.tmps.getD 122 undef, a.tmps.getD 123 undef, a.tmps.getD 124 undef, a.tmps.getD 125 undef, a.tmps.getD 126 undef, a.tmps.getD 127 undef, a.tmps.getD 128 undef, a.tmps.getD 129 undef, a.tmps.getD 130 undef, a.tmps.getD 131 undef, a.tmps.getD 132 undef, a.tmps.getD 133 undef, a.tmps.getD 134 undef, a.tmps.getD 135 undef, a.tmps.getD 136 undef, a.tmps.getD 137 undef, a.tmps.getD 138 undef, a.tmps.getD 139 undef, a.tmps.getD 140 undef, a.tmps.getD 141 undef, a.tmps.getD 142 undef, a.tmps.getD 143 undef, a.tmps.getD 144 undef, a.tmps.getD 145 undef, a.tmps.getD 146 undef, a.tmps.getD 147 undef, a.tmps.getD 148 undef, a.tmps.getD 149 undef, a.tmps.getD 150 undef, a.tmps.getD 151 undef, a.tmps.getD 152 undef, a.tmps.getD 153 undef, a.tmps.getD 154 undef, a.tmps.getD 155 undef, a.tmps.getD 156 undef, a.tmps.getD 157 undef, a.tmps.getD 158 undef, a.tmps.getD 159 undef, a.tmps.getD 160 undef, a.tmps.getD 161 undef, a.tmps.getD 162 undef, a.tmps.getD 163 undef, a.tmps.getD 164 undef, a.tmps.getD 165 undef, a.tmps.getD 166 undef, a.tmps.getD 167 undef, a.tmps.getD 168 undef, a.tmps.getD 169 undef, a.tmps.getD 170 undef, a.tmps.getD 171 undef, a.tmps.getD 172 undef, a.tmps.getD 173 undef, a.tmps.getD 174 undef, a.tmps.getD 175 undef, a.tmps.getD 176 undef, a.tmps.getD 177 undef, a.tmps.getD 178 undef, a.tmps.getD 179 undef, a.tmps.getD 180 undef, a.tmps.getD 181 undef, a.tmps.getD 182 undef, a.tmps.getD 183 undef, a.tmps.getD 184 undef, a.tmps.getD 185 undef, a.tmps.getD 186 undef, a.tmps.getD 187 undef, a.tmps.getD 188 undef, a.tmps.getD 189 undef, a.tmps.getD 190 undef, a.tmps.getD 191 undef, a.tmps.getD 192 undef, a.tmps.getD 193 undef, a.tmps.getD 194 undef, a.tmps.getD 195 undef, a.tmps.getD 196 undef, a.tmps.getD 197 undef, a.tmps.getD 198 undef, a.tmps.getD 199 undef, a.tmps.getD 200 undef, a.tmps.getD 201 undef, a.tmps.getD 202 undef, a.tmps.getD 203 undef, a.tmps.getD 204 undef, a.tmps.getD 205 undef, a.tmps.getD 206 undef, a.tmps.getD 207 undef, a.tmps.getD 208 undef, a.tmps.getD 209 undef, a.tmps.getD 210 undef, a.tmps.getD 211 undef, a.tmps.getD 212 undef, a.tmps.getD 213 undef, a.tmps.getD 214 undef, a.tmps.getD 215 undef, a.tmps.getD 216 undef, a.tmps.getD 217 undef, a.tmps.getD 218 undef, a.tmps.getD 219 undef, a.tmps.getD 220 undef, a.tmps.getD 221 undef, a.tmps.getD 222 undef, a.tmps.getD 223 undef, a.tmps.getD 224 undef, a.tmps.getD 225 undef, a.tmps.getD 226 undef, a.tmps.getD 227 undef, a.tmps.getD 228 undef, a.tmps.getD 229 undef, a.tmps.getD 230 undef, a.tmps.getD 231 undef, a.tmps.getD 232 undef, a.tmps.getD 233 undef, a.tmps.getD 234 undef, a.tmps.getD 235 undef, a.tmps.getD 236 undef, a.tmps.getD 237 undef, a.tmps.getD 238 undef, a.tmps.getD 239 undef, a.tmps.getD 240 undef, a.tmps.getD 241 undef, a.tmps.getD 242 undef, a.tmps.getD 243 undef, a.tmps.getD 244 undef, a.tmps.getD 245 undef, a.tmps.getD 246 undef, a.tmps.getD 247 undef, a.tmps.getD 248 undef, a.tmps.getD 249 undef, a.tmps.getD 250 undef, a.tmps.getD 251 undef, a.tmps.getD 252 undef, a.tmps.getD 253 undef, a.tmps.getD 254 undef, a.tmps.getD 255 undef, a.tmps.getD 256 undef, a.tmps.getD 257 undef, a.tmps.getD 258 undef, a.tmps.getD 259 undef, a.tmps.getD 260 undef, a.tmps.getD 261 undef, a.tmps.getD 262 undef, a.tmps.getD 263 undef, a.tmps.getD 264 undef, a.tmps.getD 265 undef, a.tmps.getD 266 undef, a.tmps.getD 267 undef, a.tmps.getD 268 undef, a.tmps.getD 269 undef, a.tmps.getD 270 undef, a.tmps.getD 271 undef, a.tmps.getD 272 undef, a.tmps.getD 273 undef, a.tmps.getD 274 undef, a.tmps.getD 275 undef, a.tmps.getD 276 undef, a.tmps.getD 277 undef, a.tmps.getD 278 undef, a.tmps.getD 279 undef, a.tmps.getD 280 undef, a.tmps.getD 281 undef, a.tmps.getD 282 undef, a.tmps.getD 283 undef, a.tmps.getD 284 undef, a.tmps.getD 285 undef, a.tmps.getD 286 undef, a.tmps.getD 287 undef, a.tmps.getD 288 undef, a.tmps.getD 289 undef, a.tmps.getD 290 undef, a.tmps.getD 291 undef, a.tmps.getD 292 undef, a.tmps.getD 293 undef, a.tmps.getD 294 undef, a.tmps.getD 295 undef, a.tmps.getD 296 undef, a.tmps.getD 297 undef, a.tmps.getD 298 undef, a.tmps.getD 299 undef, a.tmps.getD 300 undef, a.tmps.getD 301 undef, a.tmps.getD 302 undef, a.tmps.getD 303 undef, a.tmps.getD 304 undef, a.tmps.getD 305 undef, a.tmps.getD 306 undef, a.tmps.getD 307 undef, a.tmps.getD 308 undef, a.tmps.getD 309 undef, a.tmps.getD 310 undef, a.tmps.getD 311 undef, a.tmps.getD 312 undef, a.tmps.getD 313 undef, a.tmps.getD 314 undef, a.tmps.getD 315 undef, a.tmps.getD 316 undef, a.tmps.getD 317 undef, a.tmps.getD 318 undef, a.tmps.getD 319 undef, a.tmps.getD 320 undef, a.tmps.getD 321 undef, a.tmps.getD 322 undef, a.tmps.getD 323 undef, a.tmps.getD 324 undef, a.tmps.getD 325 undef, a.tmps.getD 326 undef, a.tmps.getD 327 undef, a.tmps.getD 328 undef] := rfl
  have h6 : a.tmps = [a.tmps.getD 0 undef, a.tmps.getD 1 undef, a.tmps.getD 2 undef, a.tmps.getD 3 undef, a.tmps.getD 4 undef, a.tmps.getD 5 undef, a.tmps.getD 6 undef, a.tmps.getD 7 undef, a.tmps.getD 8 undef, a.tmps.getD 9 undef, a.tmps.getD 10 undef, a.tmps.getD 11 undef, a.tmps.getD 12 undef, a.tmps.getD 13 undef, a.tmps.getD 14 undef, a.tmps.getD 15 undef, a.tmps.getD 16 undef, a.tmps.getD 17 undef, a.tmps.getD 18 undef, a.tmps.getD 19 undef, a.tmps.getD 20 undef, a.tmps.getD 21 undef, a.tmps.getD 22 undef, a.tmps.getD 23 undef, a.tmps.getD 24 undef, a.tmps.getD 25 undef, a.tmps.getD 26 undef, a.tmps.getD 27 undef, a.tmps.getD 28 undef, a.tmps.getD 29 undef, a.tmps.getD 30 undef, a.tmps.getD 31 undef, a.tmps.getD 32 undef, a.tmps.getD 33 undef, a.tmps.getD 34 undef, a.tmps.getD 35 undef, a.tmps.getD 36 undef, a.tmps.getD 37 undef, a.tmps.getD 38 undef, a.tmps.getD 39 undef, a.tmps.getD 40 undef, a.tmps.getD 41 undef, a.tmps.getD 42 undef, a.tmps.getD 43 undef, a.tmps.getD 44 undef, a.tmps.getD 45 undef, a.tmps.getD 46 undef, a.tmps.getD 47 undef, a.tmps.getD 48 undef, a.tmps.getD 49 undef, a.tmps.getD 50 undef, a.tmps.getD 51 undef, a.tmps.getD 52 undef, a.tmps.getD 53 undef, a.tmps.getD 54 undef, a.tmps.getD 55 undef, a.tmps.getD 56 undef, a.tmps.getD 57 undef, a.tmps.getD 58 undef, a.tmps.getD 59 undef, a.tmps.getD 60 undef, a.tmps.getD 61 undef, a.tmps.getD 62 undef, a.tmps.getD 63 undef, a.tmps.getD 64 undef, a.tmps.getD 65 undef, a.tmps.getD 66 undef, a.tmps.getD 67 undef, a.tmps.getD 68 undef, a.tmps.getD 69 undef, a.tmps.getD 70 undef, a.tmps.getD 71 undef, a.tmps.getD 72 undef, a.tmps.getD 73 undef, a.tmps.getD 74 undef, a.tmps.getD 75 undef, a.tmps.getD 76 undef, a.tmps.getD 77 undef, a.tmps.getD 78 undef, a.tmps.getD 79 undef, a.tmps.getD 80 undef, a.tmps.getD 81 undef, a.tmps.getD 82 undef, a.tmps.getD 83 undef, a.tmps.getD 84 undef, a.tmps.getD 85 undef, a.tmps.getD 86 undef, a.tmps.getD 87 undef, a.tmps.getD 88 undef, a.tmps.getD 89 undef, a.tmps.getD 90 undef, a.tmps.getD 91 undef, a.tmps.getD 92 undef, a.tmps.getD 93 undef, a.tmps.getD 94 undef, a.tmps.getD 95 undef, a.tmps.getD 96 undef, a.tmps.getD 97 undef, a.tmps.getD 98 undef, a.tmps.getD 99 undef, a.tmps.getD 100 undef, a.tmps.getD 101 undef, a.tmps.getD 102 undef, a.tmps.getD 103 undef, a.tmps.getD 104 undef, a.tmps.getD 105 undef, a.tmps.getD 106 undef, a.tmps.getD 107 undef, a.tmps.getD 108 undef, a.tmps.getD 109 undef, a.tmps.getD 110 undef, a.tmps.getD 111 undef, a.tmps.getD 112 undef, a.tmps.getD 113 undef, a.tmps.getD 114 undef, a.tmps.getD 115 undef, a.tmps.getD 116 undef, a.tmps.getD 117 undef, a.tmps.getD 118 undef, a.tmps.getD 119 undef, a.tmps.getD 120 undef, a.tmps.getD 121 undef, a.tmps.getD 122 undef, a.tmps.getD 123 undef, a.tmps.getD 124 undef, a.tmps.getD 125 undef, a.tmps.getD 126 undef, a.tmps.getD 127 undef, a.tmps.getD 128 undef, a.tmps.getD 129 undef, a.tmps.getD 130 undef, a.tmps.getD 131 undef, a.tmps.getD 132 undef, a.tmps.getD 133 undef, a.tmps.getD 134 undef, a.tmps.getD 135 undef, a.tmps.getD 136 undef, a.tmps.getD 137 undef, a.tmps.getD 138 undef, a.tmps.getD 139 undef, a.tmps.getD 140 undef, a.tmps.getD 141 undef, a.tmps.getD 142 undef, a.tmps.getD 143 undef, a.tmps.getD 144 undef, a.tmps.getD 145 undef, a.tmps.getD 146 undef, a.tmps.getD 147 undef, a.tmps.getD 148 undef, a.tmps.getD 149 undef, a.tmps.getD 150 undef, a.tmps.getD 151 undef, a.tmps.getD 152 undef, a.tmps.getD 153 undef, a.tmps.getD 154 undef, a.tmps.getD 155 undef, a.tmps.getD 156 undef, a.tmps.getD 157 undef, a.tmps.getD 158 undef, a.tmps.getD 159 undef, a.tmps.getD 160 undef, a.tmps.getD 161 undef, a.tmps.getD 162 undef, a.tmps.getD 163 undef, a.tmps.getD 164 undef, a.tmps.getD 165 undef, a.tmps.getD 166 undef, a.tmps.getD 167 undef, a.tmps.getD 168 undef, a.tmps.getD 169 undef, a.tmps.getD 170 undef, a.tmps.getD 171 undef, a.tmps.getD 172 undef, a.tmps.getD 173 undef, a.tmps.getD 174 undef, a.tmps.getD 175 undef, a.tmps.getD 176 undef, a.tmps.getD 177 undef, a.tmps.getD 178 undef, a.tmps.getD 179 undef, a.tmps.getD 180 undef, a.tmps.getD 181 undef, a.tmps.getD 182 undef, a.tmps.getD 183 undef, a.tmps.getD 184 undef, a.tmps.getD 185 undef, a.tmps.getD 186 undef, a.tmps.getD 187 undef, a.tmps.getD 188 undef, a.tmps.getD 189 undef, a.tmps.getD 190 undef, a.tmps.getD 191 undef, a.tmps.getD 192 undef, a.tmps.getD 193 undef, a.tmps.getD 194 undef, a.tmps.getD 195 undef, a.tmps.getD 196 undef, a.tmps.getD 197 undef, a.tmps.getD 198 undef, a.tmps.getD 199 undef, a.tmps.getD 200 undef, a.tmps.getD 201 undef, a.tmps.getD 202 undef, a.tmps.getD 203 undef, a.tmps.getD 204 undef, a.tmps.getD 205 undef, a.tmps.getD 206 undef, a.tmps.getD 207 undef, a.tmps.getD 208 undef, a.tmps.getD 209 undef, a.tmps.getD 210 undef, a.tmps.getD 211 undef, a.tmps.getD 212 undef, a.tmps.getD 213 undef, a.tmps.getD 214 undef, a.tmps.getD 215 undef, a.tmps.getD 216 undef, a.tmps.getD 217 undef, a.tmps.getD 218 undef, a.tmps.getD 219 undef, a.tmps.getD 220 undef, a.tmps.getD 221 undef, a.tmps.getD 222 undef, a.tmps.getD 223 undef, a.tmps.getD 224 undef, a.tmps.getD 225 undef, a.tmps.getD 226 undef, a.tmps.getD 227 undef, a.tmps.getD 228 undef, a.tmps.getD 229 undef, a.tmps.getD 230 undef, a.tmps.getD 231 undef, a.tmps.getD 232 undef, a.tmps.getD 233 undef, a.tmps.getD 234 undef, a.tmps.getD 235 undef, a.tmps.getD 236 undef, a.tmps.getD 237 undef, a.tmps.getD 238 undef, a.tmps.getD 239 undef, a.tmps.getD 240 undef, a.tmps.getD 241 undef, a.tmps.getD 242 undef, a.tmps.getD 243 undef, a.tmps.getD 244 undef, a.tmps.getD 245 undef, a.tmps.getD 246 undef, a.tmps.getD 247 undef, a.tmps.getD 248 undef, a.tmps.getD 249 undef, a.tmps.getD 250 undef, a.tmps.getD 251 undef, a.tmps.getD 252 undef, a.tmps.getD 253 undef, a.tmps.getD 254 undef, a.tmps.getD 255 undef, a.tmps.getD 256 undef, a.tmps.getD 257 undef, a.tmps.getD 258 undef, a.tmps.getD 259 undef, a.tmps.getD 260 undef, a.tmps.getD 261 undef, a.tmps.getD 262 undef, a.tmps.getD 263 undef, a.tmps.getD 264 undef, a.tmps.getD 265 undef, a.tmps.getD 266 undef, a.tmps.getD 267 undef, a.tmps.getD 268 undef, a.tmps.getD 269 undef, a.tmps.getD 270 undef, a.tmps.getD 271 undef, a.tmps.getD 272 undef, a.tmps.getD 273 undef, a.tmps.getD 274 undef, a.tmps.getD 275 undef, a.tmps.getD 276 undef, a.tmps.getD 277 undef, a.tmps.getD 278 undef, a.tmps.getD 279 undef, a.tmps.getD 280 undef, a.tmps.getD 281 undef, a.tmps.getD 282 undef, a.tmps.getD 283 undef, a.tmps.getD 284 undef, a.tmps.getD 285 undef, a.tmps.getD 286 undef, a.tmps.getD 287 undef, a.tmps.getD 288 undef, a.tmps.getD 289 undef, a.tmps.getD 290 undef, a.tmps.getD 291 undef, a.tmps.getD 292 undef, a.tmps.getD 293 undef, a.tmps.getD 294 undef, a.tmps.getD 295 undef, a.tmps.getD 296 undef, a.tmps.getD 297 undef, a.tmps.getD 298 undef, a.tmps.getD 299 undef, a.tmps.getD 300 undef, a.tmps.getD 301 undef, a.tmps.getD 302 undef, a.tmps.getD 303 undef, a.tmps.getD 304 undef, a.tmps.getD 305 undef, a.tmps.getD 306 undef, a.tmps.getD 307 undef, a.tmps.getD 308 undef, a.tmps.getD 309 undef, a.tmps.getD 310 undef, a.tmps.getD 311 undef, a.tmps.getD 312 undef, a.tmps.getD 313 undef, a.tmps.getD 314 undef, a.tmps.getD 315 undef, a.tmps.getD 316 undef, a.tmps.getD 317 undef, a.tmps.getD 318 undef, a.tmps.getD 319 undef, a.tmps.getD 320 undef, a.tmps.getD 321 undef, a.tmps.getD 322 undef, a.tmps.getD 323 undef, a.tmps.getD 324 undef, a.tmps.getD 325 undef, a.tmps.getD 326 undef, a.tmps.getD 327 undef, a.tmps.getD 328 undef].toArray := by
    rw [← h5, ← h1]
  rw [← h6]

structure PM69 (w wr : World) (src n L b1 o1 c1 : Nat) (a2 : Option Addr) (c2 b5 b6 bV vS vL vA bI bS bL bA m : Nat) (num span : Nat → Int) (V : Nat → Nat) : Prop where
  pb : PB w wr src n L b1 o1 c1 a2 c2
  a5 : Arr wr b5 n num
  a6 : Arr wr b6 n span
  aV : Arr wr bV m (fun i => (V i : Int))
  cS : wr.heap[vS]? = some (.cells #[.slice (some ⟨bS, 0, none⟩) m m] 22 (0, 0))
  cL : wr.heap[vL]? = some (.cells #[.slice (some ⟨bL, 0, none⟩) m m] 22 (0, 0))
  cA : wr.heap[vA]? = some (.cells #[.slice (some ⟨bA, 0, none⟩) m m] 22 (0, 0))
  aI : Arr wr bI m (fun _ => 0)
  aS : Arr wr bS m (fun _ => 0)
  aL : Arr wr bL m (fun _ => 0)
  aA : Arr wr bA m (fun _ => 0)
  l5 : b5 < bV ∧ b6 < bV
  l6 : bV < vS ∧ bV < vL ∧ bV < vA ∧ bV < bI ∧ bV < bS ∧ bV < bL ∧ bV < bA
  l7 : vS < wr.heap.size ∧ vL < wr.heap.size ∧ vA < wr.heap.size ∧ bI < wr.heap.size ∧ bS < wr.heap.size ∧ bL < wr.heap.size ∧ bA < wr.heap.size
  ne : bI ≠ bS ∧ bI ≠ bL ∧ bI ≠ bA ∧ bS ≠ bL ∧ bS ≠ bA ∧ bL ≠ bA ∧ vS ≠ bI ∧ vS ≠ bS ∧ vS ≠ bL ∧ vS ≠ bA ∧ vL ≠ bI ∧ vL ≠ bS ∧ vL ≠ bL ∧ vL ≠ bA ∧ vA ≠ bI ∧ vA ≠ bS ∧ vA ≠ bL ∧ vA ≠ bA

theorem upd_if {α : Type} (g : Nat → α) (z : α) (x i : Nat) : updN (fun j => if j < x then g j else z) x (g x) i = if i < x + 1 then g i else z := by
  by_cases e : i = x
  · subst e; rw [updN_same, if_pos (by omega)]
  · rw [updN_ne _ _ e]
    by_cases c : i < x
    · rw [if_pos c, if_pos (by omega)]
    · rw [if_neg c, if_neg (by omega)]

theorem updN_twice {α : Type} (f : Nat → α) (i : Nat) (a b : α) : updN (updN f i a) i b = updN f i b := by
  funext j
  by_cases e : j = i
  · subst e; rw [updN_same, updN_same]
  · rw [updN_ne _ _ e, updN_ne _ _ e, updN_ne _ _ e]

theorem updN_self {α : Type} (f : Nat → α) (i : Nat) (v : α) (h : f i = v) : updN f i v = f := by
  funext j
  by_cases e : j = i
  · subst e; rw [updN_same, h]
  · rw [updN_ne _ _ e]

theorem res27 {fn : Func} {tmps : Array Value} (h : fn.results = #[.cell 2 46, .tmp 3]) (g : Nat) (hp : tmps.getD 2 undef = .pointer (some ⟨g, 0, none⟩)) (x y : Value) (w : World) (hg : w.heap[g]? = some (.cells #[x, y] 46 (0, 0))) :
    (results fn tmps).run Try.prog w = .ok (.tuple #[.agg #[x, y], tmps.getD 3 undef]) w := by
  have hp' : tmps[2]?.getD undef = .pointer (some ⟨g, 0, none⟩) := by simpa using hp
  rw [results_cell_tmp h]
  simp [hp', asAddr, run_loadVar_row w g 46 46 #[x, y] (0, 0) _ hg Try.underlying46 rfl info46]

def DE (w : World) (src n L b1 o1 c1 : Nat) (a2 : Option Addr) (c2 b3 b4 b5 b6 B : Nat) (sf sc : Nat → Nat) (s10 : Value) (wc : World) : Prop :=
  ∃ (m : Nat) (V : Nat → Nat) (num span : Nat → Int) (P : Nat → Nat), Dfs n src L sf sc m V num span P [] ∧ PA w wc src n L b1 o1 c1 a2 c2 b3 b4 b5 b6 B sf sc num span ∧ wc.ownsRow B 21 1 s10 m (vtV V m)

set_option maxHeartbeats 4000000 in
set_option maxRecDepth 100000 in
theorem dom27 (src b1 o1 c1 : Nat) (a2 : Option Addr) (n L c2 : Nat) (pf pr : Nat → Nat) (w : World) (W : Well n L pf pr) (hn : 1 ≤ n) (hn2 : n ≤ 4096) (hL : L ≤ 65536) (hLc : L ≤ c2) (hs : src < n) (h1 : Row w b1 o1 (n + 1) pf) (h2 : Reads w a2 L (fun i => .int .i32 (pr i : Int))) : 
    Calls Try.prog 27 #[.agg #[.int .i64 src, .slice (some ⟨b1, o1, none⟩) (n + 1) c1, .slice a2 L c2]] w fun e w' => DomPost n L src pf pr w e w' := by
  have mk := run_make_row' (P := Try.prog) 22 21 (.int .i32 0) _ Try.underlying22 Try.info21 rfl .i64 .i64 n (show 4 * n ≤ 281474976710656 by omega) (show n ≤ 9223372036854775807 by omega)
  have HI : Aside (Well n L pf pr ∧ Row w b1 o1 (n + 1) pf ∧ Reads w a2 L (fun i => .int .i32 (pr i : Int))) := ⟨W, h1, h2⟩
  clear W h1 h2
  go_enter Try.func27, Try.ntmps27
  go_upto_region 3 with fail
  refine (succ30 src b1 o1 c1 a2 n L c2 pf pr _ HI.out.1 hn hn2 hL hLc ?_ ?_).mono ?_
  · exact fun i hi => cell_later (pb0 w src n L b1 o1 c1 a2 c2).bel (HI.out.2.1 i hi)
  · exact HI.out.2.2.below (pb0 w src n L b1 o1 c1 a2 c2).bel
  rintro r w1 ⟨b3, b4, sf, sc, rfl, hb3, hb4, r3, r4, hG, hfit, hbel⟩
  have hq : PB w w1 src n L b1 o1 c1 a2 c2 := by
    have h0 := pb0 w src n L b1 o1 c1 a2 c2
    exact h0.move (h0.bel.trans (hbel.mono (by simp <;> omega))) (hbel.block _ (by simp <;> omega)) (hbel.block _ (by simp)) hbel.size
  have HQ : Aside (PB w w1 src n L b1 o1 c1 a2 c2 ∧ Arr w1 b3 (n + 1) (fun i => (sf i : Int)) ∧ Arr w1 b4 L (fun i => (sc i : Int)) ∧ Gr n L sf sc ∧ (∀ u v, u < n → v < n → (Go1 sf sc u v ↔ Fits n pf pr u v)) ∧ w.heap.size + 2 ≤ b3 ∧ w.heap.size + 2 ≤ b4) := ⟨hq, r3, r4, hG, hfit, by simpa using hb3, by simpa using hb4⟩
  clear hq r3 r4 hG hfit hb3 hb4 hbel
  go_upto_region 3 with fail
  go_cut [7, 8] from 34 (fun s7 s8 wc => Laid2 w1.heap.size n w1 s7 s8 wc)
  case first => as_aux_lemma =>
    go_region
    · go_wp2_with fail
      go_meet
      case rel =>
        obtain ⟨e1, e2, e3, e4⟩ := two (wr := w1) rfl
        exact ⟨w1.heap.size, w1.heap.size + 1, rfl, rfl, by omega, by omega, by omega, by omega, by omega, e1, e2, arr_mk e3, arr_mk e4⟩
    · go_wp2_with fail
      go_meet
      case rel =>
        obtain ⟨e1, e2, e3, e4⟩ := two (wr := w1) rfl
        exact ⟨w1.heap.size + 1, w1.heap.size, rfl, rfl, by omega, by omega, by omega, by omega, by omega, e1, e2, arr_mk e4, arr_mk e3⟩
  obtain ⟨b5, b6, rfl, rfl, hb56, hb5, hb6, hb5h, hb6h, hsz, hbel, r5, r6⟩ := hcut
  obtain ⟨B, hB⟩ : ∃ B, B = w1.heap.size + 2 := ⟨_, rfl⟩
  have hD : DA w.heap.size b3 b4 b5 b6 B := by
    have l3 := HQ.out.2.1.lt
    have l4 := HQ.out.2.2.1.lt
    exact ⟨HQ.out.2.2.2.2.2.1, HQ.out.2.2.2.2.2.2, by omega, by omega, hb56, by omega, by omega⟩
  have hA : PA w wc src n L b1 o1 c1 a2 c2 b3 b4 b5 b6 B sf sc (fun _ => 0) (fun _ => 0) :=
    ⟨HQ.out.1.move (HQ.out.1.bel.trans (hbel.mono HQ.out.1.bel.size)) (hbel.block _ (by have := HQ.out.1.sz; omega)) (hbel.block _ (by have := HQ.out.1.sz; omega)) hbel.size, HQ.out.2.1.below hbel, HQ.out.2.2.1.below hbel, r5, r6, by omega⟩
  have HG : Aside (Gr n L sf sc ∧ (∀ u v, u < n → v < n → (Go1 sf sc u v ↔ Fits n pf pr u v)) ∧ DA w.heap.size b3 b4 b5 b6 B) := ⟨HQ.out.2.2.2.1, HQ.out.2.2.2.2.1, hD⟩
  have HA : Aside (PA w wc src n L b1 o1 c1 a2 c2 b3 b4 b5 b6 B sf sc (fun _ => 0) (fun _ => 0)) := hA
  clear hA hD HQ r5 r6 hbel hsz hb5 hb6 hb5h hb6h hB mk
  go_upto_block 0 with fail
  go_cut [9] (fun s9 wc => PA w wc src n L b1 o1 c1 a2 c2 b3 b4 b5 b6 B sf sc (fun _ => -1) (fun _ => -1))
  case first => as_aux_lemma =>
    go_wp2_with fail
    go_loopg [48] n (fun g s48 wr => ∃ x : Nat, x ≤ n ∧ g = n - x ∧ s48 = .int .i64 x ∧ PA w wr src n L b1 o1 c1 a2 c2 b3 b4 b5 b6 B sf sc (fun i => if i < x then -1 else 0) (fun i => if i < x then -1 else 0))
    case atStart => exact ⟨0, Nat.zero_le _, rfl, rfl, HA.out.congr (fun i _ => by simp) (fun i _ => by simp)⟩
    case round => as_aux_lemma =>
      clear HA
      obtain ⟨x, hx, rfl, rfl, hA⟩ := hrel
      by_cases hlt : x < n
      · have g1 : wr.cell? ⟨b5, x, none⟩ = some (.int .i32 0) := by have := hA.a5.cell hlt; rw [if_neg (by omega)] at this; exact this
        have g2 : wr.frozen? ⟨b5, x, none⟩ = false := hA.a5.frozen _
        have g3 : wr.cell? ⟨b6, x, none⟩ = some (.int .i32 0) := by have := hA.a6.cell hlt; rw [if_neg (by omega)] at this; exact this
        have g4 : wr.frozen? ⟨b6, x, none⟩ = false := hA.a6.frozen _
        have A : Aside (PA w wr src n L b1 o1 c1 a2 c2 b3 b4 b5 b6 B sf sc (fun i => if i < x then -1 else 0) (fun i => if i < x then -1 else 0)) := hA
        have hne2 : b6 ≠ b5 := Ne.symm hb56
        clear hA
        go_wp2
        go_roundg (n - (x + 1))
        case rel =>
          go_light
          refine ⟨x + 1, by omega, rfl, by go_num, ((A.out.set5 HG.out.2.2 x (-1)).set6 HG.out.2.2 x (-1)).congr (fun i _ => ?_) (fun i _ => ?_)⟩
          · by_cases e : i = x
            · subst e; rw [updN_same, if_pos (by omega)]
            · rw [updN_ne _ _ e]; by_cases c : i < x
              · rw [if_pos c, if_pos (by omega)]
              · rw [if_neg c, if_neg (by omega)]
          · by_cases e : i = x
            · subst e; rw [updN_same, if_pos (by omega)]
            · rw [updN_ne _ _ e]; by_cases c : i < x
              · rw [if_pos c, if_pos (by omega)]
              · rw [if_neg c, if_neg (by omega)]
        case measure => go_light; omega
      · obtain rfl : x = n := by omega
        have A : Aside (PA w wr src x L b1 o1 c1 a2 c2 b3 b4 b5 b6 B sf sc (fun i => if i < x then -1 else 0) (fun i => if i < x then -1 else 0)) := hA
        clear hA
        go_wp2
        go_meet
        case rel => exact A.out.congr (fun i hi => if_pos hi) (fun i hi => if_pos hi)
  have HA2 : Aside (PA w wc src n L b1 o1 c1 a2 c2 b3 b4 b5 b6 B sf sc (fun _ => -1) (fun _ => -1)) := hcut
  have g0 : wc.cell? ⟨w.heap.size, 0, none⟩ = some (.int .i64 src) := by simp [World.cell?, hcut.pb.box]
  clear hcut HA
  go_upto_region 10 with fail
  have HA3 : Aside (PA w (wc.alloc (.cells #[.int .i32 src] 21)) src n L b1 o1 c1 a2 c2 b3 b4 b5 b6 B sf sc (fun _ => -1) (fun _ => -1) ∧ (wc.alloc (.cells #[.int .i32 src] 21)).ownsRow B 21 1 (.slice (some ⟨wc.heap.size, 0, none⟩) 1 1) 1 (vtV (fun _ => src) 1)) :=
    ⟨HA2.out.later HG.out.2.2 ((Below.refl _ _).alloc HA2.out.sz _), rfl, .inr ⟨wc.heap.size, 1, #[.int .i32 src], rfl, HA2.out.sz, heap_alloc_new _ _, Nat.le_refl _, by simp [maxLen], rfl, rfl⟩⟩
  clear HA2 g0
  obtain ⟨gv, hgv⟩ : ∃ gv, gv = wc.heap.size := ⟨_, rfl⟩
  rw [← hgv] at HA3 ⊢
  clear hgv
  generalize wc.alloc (.cells #[.int .i32 src] 21) = wr at HA3 ⊢
  have g0 : wr.cell? ⟨w.heap.size, 0, none⟩ = some (.int .i64 src) := by simp [World.cell?, HA3.out.1.pb.box]
  have g1 : wr.cell? ⟨b5, src, none⟩ = some (.int .i32 (-1)) := HA3.out.1.a5.cell hs
  have g2 : wr.frozen? ⟨b5, src, none⟩ = false := HA3.out.1.a5.frozen _
  go_upto_region 11 with fail
  have HA4 : Aside (PA w (wr.setCell ⟨b5, src, none⟩ (.int .i32 0)) src n L b1 o1 c1 a2 c2 b3 b4 b5 b6 B sf sc (updN (fun _ => -1) src 0) (fun _ => -1) ∧ (wr.setCell ⟨b5, src, none⟩ (.int .i32 0)).ownsRow B 21 1 (.slice (some ⟨gv, 0, none⟩) 1 1) 1 (vtV (fun _ => src) 1)) :=
    ⟨HA3.out.1.set5 HG.out.2.2 src 0, own_low HA3.out.2 HG.out.2.2.h5 _ _⟩
  clear HA3 g0 g1 g2
  generalize wr.setCell ⟨b5, src, none⟩ (.int .i32 0) = wr at HA4 ⊢
  have g0 : wr.cell? ⟨w.heap.size, 0, none⟩ = some (.int .i64 src) := by simp [World.cell?, HA4.out.1.pb.box]
  have g3 : wr.cell? ⟨b3, src, none⟩ = some (.int .i32 (sf src : Int)) := HA4.out.1.a3.cell (by omega)
  go_region
  all_goals go_upto_block 2 with fail
  have HD0 : Aside (PD w (wr.alloc (.cells #[.int .i32 src, .int .i32 (sf src : Int)] 55)).drew src n L b1 o1 c1 a2 c2 b3 b4 b5 b6 B sf sc (updN (fun _ => -1) src 0) (fun _ => -1) (fun _ => src) 1 (.slice (some ⟨gv, 0, none⟩) 1 1) [(0, sf src)] (.slice (some ⟨wr.heap.size, 0, none⟩) 1 1)) := by
    have hB : Below B wr (wr.alloc (.cells #[.int .i32 src, .int .i32 (sf src : Int)] 55)) := (Below.refl _ _).alloc HA4.out.1.sz _
    exact ⟨(HA4.out.1.later HG.out.2.2 hB).drew, (HA4.out.2.alloc _).drew, rfl, .inr ⟨wr.heap.size, 1, #[.int .i32 src, .int .i32 (sf src : Int)], rfl, HA4.out.1.sz, heap_alloc_new _ _, Nat.le_refl _, by simp [maxLen], rfl, rfl⟩⟩
  clear HA4 g0 g3
  obtain ⟨gw, hgw⟩ : ∃ gw, gw = wr.heap.size := ⟨_, rfl⟩
  rw [← hgw] at HD0 ⊢
  clear hgw
  generalize (wr.alloc (.cells #[.int .i32 src, .int .i32 (sf src : Int)] 55)).drew = wr at HD0 ⊢
  go_cut [10] (fun s10 wc => DE w src n L b1 o1 c1 a2 c2 b3 b4 b5 b6 B sf sc s10 wc)
  case first => as_aux_lemma =>
    go_wp2_with fail
    go_loopg [10, 11] (free (updN (fun _ => (-1 : Int)) src 0) n * (L + 2) + wt sf (fun _ => src) [(0, sf src)]) (fun g s10 s11 wr => ∃ (m : Nat) (V : Nat → Nat) (num span : Nat → Int) (P : Nat → Nat) (St : List (Nat × Nat)), g = free num n * (L + 2) + wt sf V St + 0 ∧ Dfs n src L sf sc m V num span P St ∧ PD w wr src n L b1 o1 c1 a2 c2 b3 b4 b5 b6 B sf sc num span V m s10 St s11)
    case atStart => exact ⟨1, _, _, _, _, _, rfl, Dfs.start hs (HG.out.1.mono src hs), HD0.out⟩
    case round => as_aux_lemma =>
      clear HD0
      obtain ⟨m, V, num, span, P, St, hg, hF, hP⟩ := hrel
      cases St with
      | nil =>
        obtain ⟨a11, c11, rfl⟩ := owns2_form hP.ow
        have HE : Aside (DE w src n L b1 o1 c1 a2 c2 b3 b4 b5 b6 B sf sc u10 wr) := ⟨m, V, num, span, P, hF, hP.pa, hP.ov⟩
        clear hF hP hg
        go_wp2
        go_meet
        case rel => exact HE.out
      | cons p r =>
        obtain ⟨j, x⟩ := p
        obtain ⟨gb, c, rfl, hgB, hgs, hrc, t0, t1, tf, _, _⟩ := owns2_top hP.ow
        obtain ⟨hj, hx1, hx2⟩ := hF.stl j x List.mem_cons_self
        have hlen : ((j, x) :: r).length = r.length + 1 := rfl
        have hrj := way_len hF.plt r j x hj hF.way
        have hmn : m ≤ n := by have := hF.free; omega
        have hvj := hF.vlt j hj
        obtain ⟨av, cv, rfl⟩ := owns_form hP.ov
        obtain ⟨vj, hvje⟩ : ∃ vj, vj = V j := ⟨_, rfl⟩
        rw [← hvje] at hvj t0
        have hG1 := HG.out.1.top (vj + 1) (by omega)
        obtain ⟨y, hy⟩ : ∃ y, y = sf (vj + 1) := ⟨_, rfl⟩
        rw [← hy] at hG1
        have hxy : x ≤ y := by rw [hy, hvje]; exact hx2
        have g3 : wr.cell? ⟨b3, vj + 1, none⟩ = some (.int .i32 (y : Int)) := by rw [hy]; exact hP.pa.a3.cell (by omega)
        obtain ⟨k, hk⟩ : ∃ k, k = r.length := ⟨_, rfl⟩
        simp only [← hk] at hP t0 t1 hrj hrc ⊢
        rw [Nat.mul_comm 2 k] at t0 t1
        have hkm : k ≤ 4096 := by omega
        have A : Aside (Dfs n src L sf sc m V num span P ((j, x) :: r) ∧ PD w wr src n L b1 o1 c1 a2 c2 b3 b4 b5 b6 B sf sc num span V m (.slice av m cv) ((j, x) :: r) (.slice (some ⟨gb, 0, none⟩) (r.length + 1) c) ∧ vj = V j ∧ y = sf (vj + 1) ∧ k = r.length) := ⟨hF, by rw [← hk]; exact hP, hvje, hy, hk⟩
        have HT : Aside (∀ i, wr.frozen? ⟨gb, i, none⟩ = false) := tf
        clear hF hP hvje hy hk hlen tf hx1 hx2
        by_cases hxe : x = y
        · subst hxe
          have hsl := slice_head2 gb (k + 1) c k (by omega)
          go_wp2
          go_quiet (fail)
          have A1 : Aside (PD w (wr.drewN nq) src n L b1 o1 c1 a2 c2 b3 b4 b5 b6 B sf sc num span V m (.slice av m cv) ((j, x) :: r) (.slice (some ⟨gb, 0, none⟩) (r.length + 1) c)) := A.out.2.1.drewN _
          clear t0 t1 g3 HT
          generalize wr.drewN nq = wr at A1 ⊢
          go_wp2
          go_roundg (free num n * (L + 2) + wt sf V r)
          case rel =>
            go_light
            obtain ⟨_, _, e1, e2, e3⟩ := A.out
            refine ⟨m, V, num, span, P, r, rfl, A.out.1.pop (by rw [e2, e1]), ?_⟩
            rw [e3]
            exact A1.out.popped
          case measure =>
            go_light
            rw [hg]
            simp only [wt]
            omega
        · have hxL : x < L := by omega
          obtain ⟨wv, hwv⟩ : ∃ wv, wv = sc x := ⟨_, rfl⟩
          have hwvn : wv < n := by rw [hwv]; exact HG.out.1.lt x hxL
          have g4 : wr.cell? ⟨b4, x, none⟩ = some (.int .i32 (wv : Int)) := by rw [hwv]; exact A.out.2.1.pa.a4.cell hxL
          have t1f : wr.frozen? ⟨gb, k * 2 + 1, none⟩ = false := HT.out _
          have HW : Aside (wv = sc x) := hwv
          clear hwv
          have hxe2 : ((x : Int) == (y : Int)) = false := by simp; omega
          go_wp2
          go_quiet (fail)
          have A1 : Aside (PD w (wr.drewN nq) src n L b1 o1 c1 a2 c2 b3 b4 b5 b6 B sf sc num span V m (.slice av m cv) ((j, x) :: r) (.slice (some ⟨gb, 0, none⟩) (r.length + 1) c)) := A.out.2.1.drewN _
          have e0 : (wr.drewN nq).cell? ⟨gb, k * 2, none⟩ = some (.int .i32 (vj : Int)) := t0
          have e1 : (wr.drewN nq).cell? ⟨gb, k * 2 + 1, none⟩ = some (.int .i32 (x : Int)) := t1
          have e2 : (wr.drewN nq).frozen? ⟨gb, k * 2 + 1, none⟩ = false := t1f
          have e4 : (wr.drewN nq).cell? ⟨b4, x, none⟩ = some (.int .i32 (wv : Int)) := g4
          clear t0 t1 g3 HT g4 t1f
          generalize wr.drewN nq = wr at A1 e0 e1 e2 e4 ⊢
          go_upto_region 18 with fail
          have A2 : Aside (PD w (wr.setCell ⟨gb, k * 2 + 1, none⟩ (.int .i32 ((x : Int) + 1))) src n L b1 o1 c1 a2 c2 b3 b4 b5 b6 B sf sc num span V m (.slice av m cv) ((j, x + 1) :: r) (.slice (some ⟨gb, 0, none⟩) (r.length + 1) c)) := by
            have := A1.out.next HG.out.2.2 (x + 1)
            rw [← A.out.2.2.2.2, Nat.mul_comm 2 k, show ((x + 1 : Nat) : Int) = (x : Int) + 1 by omega] at this
            rw [← A.out.2.2.2.2]
            exact this
          clear A1 e0 e1 e2 e4
          generalize wr.setCell ⟨gb, k * 2 + 1, none⟩ (.int .i32 ((x : Int) + 1)) = wr at A2 ⊢
          obtain ⟨nv, hnv⟩ : ∃ nv, nv = num wv := ⟨_, rfl⟩
          have g5 : wr.cell? ⟨b5, wv, none⟩ = some (.int .i32 nv) := by rw [hnv]; exact A2.out.pa.a5.cell hwvn
          have HN : Aside (nv = num wv) := hnv
          have hxlt : x < sf (V j + 1) := by
            obtain ⟨_, _, e1, e2, e3⟩ := A.out
            rw [← e1, ← e2]; omega
          have HX : Aside (x < sf (V j + 1)) := hxlt
          clear hnv hxlt
          by_cases hneg : nv < 0
          · have g5f : wr.frozen? ⟨b5, wv, none⟩ = false := A2.out.pa.a5.frozen _
            go_upto_region 20 with fail
            have A3 : Aside (PD w (wr.setCell ⟨b5, wv, none⟩ (.int .i32 (m : Int))) src n L b1 o1 c1 a2 c2 b3 b4 b5 b6 B sf sc (updN num wv (m : Int)) span V m (.slice av m cv) ((j, x + 1) :: r) (.slice (some ⟨gb, 0, none⟩) (r.length + 1) c)) := A2.out.set5 HG.out.2.2 wv m
            clear A2 g5 g5f
            generalize wr.setCell ⟨b5, wv, none⟩ (.int .i32 (m : Int)) = wr at A3 ⊢
            obtain ⟨i0, hi, hz0, hz1, hz2⟩ := info_parts Try.info21
            go_upto_region 21 with (at_builtin; refine wpList_append_own _ rfl (.tmp 127) (.tmp 129) 22 rfl B 21 i0 (.int .i32 0) 1 4 Try.underlying22 hi hz0 hz1 hz2 rfl (by decide) (.slice av m cv) m (vtV V m) rfl (A3.out.ov.alloc _) ⟨wr.heap.size, 0, none⟩ 1 1 [.int .i32 (wv : Int)] rfl rfl (cell_one_new _ _ _) (by simp [Value.oneCell']) (by simp only [maxLen]; omega) (by omega) (by have := A3.out.pa.sz; simp; omega) ?_; intro v' w1 hown1 hgr1 _; obtain ⟨av', cv', hform⟩ := owns_form hown1; subst hform)
            have A4 : Aside (PD w w1 src n L b1 o1 c1 a2 c2 b3 b4 b5 b6 B sf sc (updN num wv (m : Int)) span (updN V m wv) (m + 1) (.slice av' (m + 1) cv') ((j, x + 1) :: r) (.slice (some ⟨gb, 0, none⟩) (r.length + 1) c)) :=
              A3.out.grownV HG.out.2.2 hgr1 hown1 (fun i y hm => by
                rcases List.mem_cons.1 hm with e | e
                · cases e; exact hj
                · exact (A.out.1.stl i y (List.mem_cons_of_mem _ e)).1)
            clear A3 hown1 hgr1 hi hz0 hz1 hz2
            obtain ⟨t0, tf⟩ : w1.cell? ⟨gb, k * 2, none⟩ = some (.int .i32 (vj : Int)) ∧ ∀ i, w1.frozen? ⟨gb, i, none⟩ = false := by
              obtain ⟨gb', c', e, _, _, _, t0, _, tf, _, _⟩ := owns2_top A4.out.ow
              cases e
              rw [updN_ne _ _ (show j ≠ m by omega), ← A.out.2.2.1, ← A.out.2.2.2.2, Nat.mul_comm 2 k] at t0
              exact ⟨t0, tf⟩
            clear tf
            have g6 : w1.cell? ⟨b6, wv, none⟩ = some (.int .i32 (span wv)) := A4.out.pa.a6.cell hwvn
            have g6f : w1.frozen? ⟨b6, wv, none⟩ = false := A4.out.pa.a6.frozen _
            go_upto_region 22 with fail
            have A5 : Aside (PD w (w1.setCell ⟨b6, wv, none⟩ (.int .i32 (vj : Int))) src n L b1 o1 c1 a2 c2 b3 b4 b5 b6 B sf sc (updN num wv (m : Int)) (updN span wv (vj : Int)) (updN V m wv) (m + 1) (.slice av' (m + 1) cv') ((j, x + 1) :: r) (.slice (some ⟨gb, 0, none⟩) (r.length + 1) c)) := A4.out.set6 HG.out.2.2 wv vj
            clear A4 t0 g6 g6f
            generalize w1.setCell ⟨b6, wv, none⟩ (.int .i32 (vj : Int)) = wr at A5 ⊢
            obtain ⟨y2, hy2⟩ : ∃ y2, y2 = sf wv := ⟨_, rfl⟩
            have g7 : wr.cell? ⟨b3, wv, none⟩ = some (.int .i32 (y2 : Int)) := by rw [hy2]; exact A5.out.pa.a3.cell (by omega)
            have HY : Aside (y2 = sf wv) := hy2
            clear hy2
            have A6 : Aside (wr.ownsRow B 55 2 (.slice (some ⟨gb, 0, none⟩) (k + 1) c) (k + 1) (stV2 (updN V m wv) ((j, x + 1) :: r))) := by
              have := A5.out.ow
              rw [show ((j, x + 1) :: r).length = r.length + 1 from rfl, ← A.out.2.2.2.2] at this
              exact this
            obtain ⟨i0, hi, hz0, hz1, hz2⟩ := info_parts Try.info55
            go_wp2_with (at_builtin; refine wpList_append_own _ rfl (.tmp 138) (.tmp 145) 56 rfl B 55 i0 (.agg #[.int .i32 0, .int .i32 0]) 2 8 Try.underlying56 hi hz0 hz1 hz2 rfl (by decide) (.slice (some ⟨gb, 0, none⟩) (k + 1) c) (k + 1) (stV2 (updN V m wv) ((j, x + 1) :: r)) rfl (A6.out.alloc _) ⟨wr.heap.size, 0, none⟩ 1 1 [.int .i32 (wv : Int), .int .i32 (y2 : Int)] rfl rfl (cell_two_new _ _ _ _) (by simp [Value.oneCell']) (by simp only [maxLen]; omega) (by omega) (by have := A5.out.pa.sz; simp; omega) ?_; intro v' w1 hown1 hgr1 _)
            go_roundg (free (updN num (sc x) (m : Int)) n * (L + 2) + wt sf (updN V m (sc x)) ((m, sf (sc x)) :: (j, x + 1) :: r))
            case rel =>
              go_light
              have hsc : wv = sc x := HW.out
              have hps := A.out.1.push HG.out.1 HX.out (by rw [← hsc, ← HN.out]; exact hneg)
              refine ⟨m + 1, updN V m (sc x), updN num (sc x) (m : Int), updN span (sc x) (V j : Int), updN P m j, _, rfl, hps, ?_⟩
              rw [← hsc, ← A.out.2.2.1, ← HY.out]
              exact A5.out.grownW HG.out.2.2 hgr1 (by rw [updN_same, show ((j, x + 1) :: r).length = r.length + 1 from rfl, ← A.out.2.2.2.2]; exact hown1)
            case measure =>
              go_light
              rw [hg]
              exact mu_push HG.out.1 A.out.1 HX.out (by rw [← HW.out, ← HN.out]; exact hneg)
          · go_wp2
            go_roundg (free num n * (L + 2) + wt sf V ((j, x + 1) :: r))
            case rel =>
              go_light
              have hnn : 0 ≤ num (sc x) := by rw [← HW.out, ← HN.out]; omega
              obtain ⟨z, hz1, hz2, _⟩ := A.out.1.seen (by rw [← HW.out]; exact hwvn) hnn
              refine ⟨m, V, num, span, P, _, rfl, A.out.1.skip HX.out hz1 hz2, ?_⟩
              rw [A.out.2.2.2.2]
              exact A2.out
            case measure =>
              go_light
              have := HX.out
              try rw [hg]
              simp only [wt]
              omega
  obtain ⟨m, V, num, span, P, hF, hA, hov⟩ := hcut
  have hm1 : 1 ≤ m := hF.m1
  have hmn : m ≤ n := by have := hF.free; omega
  obtain ⟨bV, cV, rfl, hbV, hcV, hV⟩ := arr_owns hov (by omega) (fun i => (V i : Int)) (fun i hi => vtV_get V m i hi)
  have HV : Aside (Dfs n src L sf sc m V num span P [] ∧ PA w wc src n L b1 o1 c1 a2 c2 b3 b4 b5 b6 B sf sc num span ∧ Arr wc bV m (fun i => (V i : Int)) ∧ B ≤ bV) := ⟨hF, hA, hV, hbV⟩
  clear hF hA hov hV hbV HD0
  go_upto_region 24 with fail
  go_cut [15, 16, 17, 18] from 34 (fun s15 s16 s17 s18 wx => M69 wc m s15 s16 s17 s18 wx)
  case first => as_aux_lemma =>
    refine reg69 (m := m) rfl ?_ rfl rfl (by omega) ?_
    · intro i hi
      match i, hi with
      | 0, _ => exact ⟨_, rfl, rfl, rfl, rfl, by decide, by decide⟩
      | 1, _ => exact ⟨_, rfl, rfl, rfl, rfl, by decide, by decide⟩
      | 2, _ => exact ⟨_, rfl, rfl, rfl, rfl, by decide, by decide⟩
      | 3, _ => exact ⟨_, rfl, rfl, rfl, rfl, by decide, by decide⟩
      | 4, _ => exact ⟨_, rfl, rfl, rfl, rfl, by decide, by decide⟩
      | 5, _ => exact ⟨_, rfl, rfl, rfl, rfl, by decide, by decide⟩
      | 6, _ => exact ⟨_, rfl, rfl, rfl, rfl, by decide, by decide⟩
      | 7, _ => exact ⟨_, rfl, rfl, rfl, rfl, by decide, by decide⟩
      | 8, _ => exact ⟨_, rfl, rfl, rfl, rfl, by decide, by decide⟩
      | 9, _ => exact ⟨_, rfl, rfl, rfl, rfl, by decide, by decide⟩
      | 10, _ => exact ⟨_, rfl, rfl, rfl, rfl, by decide, by decide⟩
      | 11, _ => exact ⟨_, rfl, rfl, rfl, rfl, by decide, by decide⟩
      | 12, _ => exact ⟨_, rfl, rfl, rfl, rfl, by decide, by decide⟩
      | 13, _ => exact ⟨_, rfl, rfl, rfl, rfl, by decide, by decide⟩
      | 14, _ => exact ⟨_, rfl, rfl, rfl, rfl, by decide, by decide⟩
      | i + 15, hi => omega
    · intro a' w' f listed hall hJ
      have he := act_329 a' hJ.tsz
      rw [hJ.keep 0 (by unfold isDst; omega), hJ.keep 1 (by unfold isDst; omega), hJ.keep 2 (by unfold isDst; omega), hJ.keep 3 (by unfold isDst; omega), hJ.keep 4 (by unfold isDst; omega), hJ.keep 5 (by unfold isDst; omega), hJ.keep 6 (by unfold isDst; omega), hJ.keep 7 (by unfold isDst; omega), hJ.keep 8 (by unfold isDst; omega), hJ.keep 9 (by unfold isDst; omega), hJ.keep 10 (by unfold isDst; omega), hJ.keep 11 (by unfold isDst; omega), hJ.keep 12 (by unfold isDst; omega), hJ.keep 13 (by unfold isDst; omega), hJ.keep 14 (by unfold isDst; omega), hJ.keep 19 (by unfold isDst; omega), hJ.keep 20 (by unfold isDst; omega), hJ.keep 21 (by unfold isDst; omega), hJ.keep 22 (by unfold isDst; omega), hJ.keep 23 (by unfold isDst; omega), hJ.keep 24 (by unfold isDst; omega), hJ.keep 25 (by unfold isDst; omega), hJ.keep 26 (by unfold isDst; omega), hJ.keep 27 (by unfold isDst; omega), hJ.keep 28 (by unfold isDst; omega), hJ.keep 29 (by unfold isDst; omega), hJ.keep 30 (by unfold isDst; omega), hJ.keep 31 (by unfold isDst; omega), hJ.keep 32 (by unfold isDst; omega), hJ.keep 33 (by unfold isDst; omega), hJ.df] at he
      refine ‹∀ (a' : Act) (w' : World), Met _ a' w' → _› a' w' (Met.intro ?_)
      go_step
      (repeat apply Exists.intro)
      refine ⟨?rel, he⟩
      exact ⟨f, (hJ.al 8 (by omega) (by omega) (hall 8 (by omega))).1, (hJ.al 9 (by omega) (by omega) (hall 9 (by omega))).1, (hJ.al 10 (by omega) (by omega) (hall 10 (by omega))).1, hJ.asg (hall 14 (by omega)), fun i hi => hJ.rng i hi (hall i (by rcases hi with h | h <;> omega)), fun i j hi hj hne => hJ.inj i j hi hj hne (hall i (by rcases hi with h | h <;> omega)) (hall j (by rcases hj with h | h <;> omega)), fun i h1 h2 => arr_mk (hJ.mke i h1 h2 (hall i (by omega))).2, fun i h1 h2 => by have := (hJ.al i h1 h2 (hall i (by omega))).2; rw [if_pos (hall (i + 3) (by omega))] at this; exact this, hJ.bel⟩
  obtain ⟨f, rfl, rfl, rfl, rfl, hfr, hfi, hfa, hfp, hfb⟩ := hcut
  have mk2 := run_make_row' (P := Try.prog) 22 21 (.int .i32 0) _ Try.underlying22 Try.info21 rfl .i64 .i64 m (show 4 * m ≤ 281474976710656 by omega) (show m ≤ 9223372036854775807 by omega)
  have al : isAl 1 ∧ isAl 3 ∧ isAl 5 ∧ isAl 7 ∧ isAl 8 ∧ isAl 9 ∧ isAl 10 := by unfold isAl; omega
  obtain ⟨al1, al3, al5, al7, al8, al9, al10⟩ := al
  have HM : Aside (PM69 w wc src n L b1 o1 c1 a2 c2 b5 b6 bV (f 8) (f 9) (f 10) (f 7) (f 1) (f 3) (f 5) m num span V) := by
    obtain ⟨hF, hA, hV, hbV⟩ := HV.out
    obtain ⟨g1, g2⟩ := hfr 1 al1; obtain ⟨g3, g4⟩ := hfr 3 al3; obtain ⟨g5, g6⟩ := hfr 5 al5; obtain ⟨g7, g8⟩ := hfr 7 al7; obtain ⟨g9, g10⟩ := hfr 8 al8; obtain ⟨g11, g12⟩ := hfr 9 al9; obtain ⟨g13, g14⟩ := hfr 10 al10
    have d1 := HG.out.2.2.l3; have d2 := HG.out.2.2.l4; have d3 := HG.out.2.2.h3; have d4 := HG.out.2.2.h4; have d5 := HG.out.2.2.h5; have d6 := HG.out.2.2.h6
    have hl := hV.lt
    have hsz := hA.pb.sz
    refine ⟨hA.pb.move (hA.pb.bel.trans (hfb.mono hA.pb.bel.size)) (hfb.block _ (by omega)) (hfb.block _ (by omega)) hfb.size, hA.a5.below hfb, hA.a6.below hfb, hV.below hfb, hfp 8 (by omega) (by omega), hfp 9 (by omega) (by omega), hfp 10 (by omega) (by omega), hfa 7 (by omega) (by omega), hfa 1 (by omega) (by omega), hfa 3 (by omega) (by omega), hfa 5 (by omega) (by omega), by omega, by omega, by omega, ?_⟩
    exact ⟨hfi 7 1 al7 al1 (by omega), hfi 7 3 al7 al3 (by omega), hfi 7 5 al7 al5 (by omega), hfi 1 3 al1 al3 (by omega), hfi 1 5 al1 al5 (by omega), hfi 3 5 al3 al5 (by omega), hfi 8 7 al8 al7 (by omega), hfi 8 1 al8 al1 (by omega), hfi 8 3 al8 al3 (by omega), hfi 8 5 al8 al5 (by omega), hfi 9 7 al9 al7 (by omega), hfi 9 1 al9 al1 (by omega), hfi 9 3 al9 al3 (by omega), hfi 9 5 al9 al5 (by omega), hfi 10 7 al10 al7 (by omega), hfi 10 1 al10 al1 (by omega), hfi 10 3 al10 al3 (by omega), hfi 10 5 al10 al5 (by omega)⟩
  have HF : Aside (Dfs n src L sf sc m V num span P []) := HV.out.1
  clear hfr hfi hfa hfp hfb HV al1 al3 al5 al7 al8 al9 al10
  generalize f 8 = vS at *
  generalize f 9 = vL at *
  generalize f 10 = vA at *
  generalize f 7 = bI at *
  generalize f 1 = bS at *
  generalize f 3 = bL at *
  generalize f 5 = bA at *
  clear f
  obtain ⟨w4, hw4⟩ : ∃ w4 : World, w4 = wc := ⟨_, rfl⟩
  rw [← hw4] at HM ⊢
  clear hw4
  go_upto_region 25 with fail
  go_cut [19, 20] from 34 (fun s19 s20 wx => Laid2 w4.heap.size m w4 s19 s20 wx)
  case first => as_aux_lemma =>
    go_region
    · go_wp2_with fail
      go_meet
      case rel =>
        obtain ⟨e1, e2, e3, e4⟩ := two (wr := w4) rfl
        exact ⟨w4.heap.size, w4.heap.size + 1, rfl, rfl, by omega, by omega, by omega, by omega, by omega, e1, e2, arr_mk e3, arr_mk e4⟩
    · go_wp2_with fail
      go_meet
      case rel =>
        obtain ⟨e1, e2, e3, e4⟩ := two (wr := w4) rfl
        exact ⟨w4.heap.size + 1, w4.heap.size, rfl, rfl, by omega, by omega, by omega, by omega, by omega, e1, e2, arr_mk e4, arr_mk e3⟩
  obtain ⟨bF, bN, rfl, rfl, hbFN, hbF, hbN, hbFh, hbNh, hsz, hbel, rF, rN⟩ := hcut
  obtain ⟨vC, hvC⟩ : ∃ vC, vC = w4.heap.size + 2 := ⟨_, rfl⟩
  have hD : DM w.heap.size b5 b6 bV vS vL vA bI bS bL bA bF bN vC := by
    have h := HM.out
    have d1 := HG.out.2.2.l3; have d2 := HG.out.2.2.l4; have d3 := HG.out.2.2.h3; have d4 := HG.out.2.2.h4
    have l5 := h.l5; have l6 := h.l6; have h7 := h.l7
    obtain ⟨x1, x2, x3, x4, x5, x6, x7, x8, x9, x10, x11, x12, x13, x14, x15, x16, x17, x18⟩ := h.ne
    exact ⟨by omega, by omega, by omega, by omega, hbFN, by omega, x1, x2, x3, x4, x5, x6, x7, x8, x9, x10, x11, x12, x13, x14, x15, x16, x17, x18⟩
  have HP : Aside (PM w wc src n L b1 o1 c1 a2 c2 b5 b6 bV vS vL vA bI bS bL bA bF bN vC m num span V (fun _ => 0) (fun _ => 0) (fun _ => 0) (fun _ => 0) (fun _ => 0) (fun _ => 0)) := by
    have h := HM.out
    have h7 := h.l7
    have hs2 := h.pb.sz
    exact ⟨h.pb.move (h.pb.bel.trans (hbel.mono h.pb.bel.size)) (hbel.block _ (by omega)) (hbel.block _ (by omega)) hbel.size, h.a5.below hbel, h.a6.below hbel, h.aV.below hbel, (hbel.block _ (by omega)).trans h.cS, (hbel.block _ (by omega)).trans h.cL, (hbel.block _ (by omega)).trans h.cA, h.aI.below hbel, h.aS.below hbel, h.aL.below hbel, h.aA.below hbel, rF, rN, by omega⟩
  have HD : Aside (DM w.heap.size b5 b6 bV vS vL vA bI bS bL bA bF bN vC ∧ wc.heap.size = vC) := ⟨hD, by omega⟩
  clear hD HM rF rN hbel hsz hbF hbN hbFh hbNh hvC mk2
  go_upto_block 4 with fail
  obtain ⟨w5, hw5⟩ : ∃ w5 : World, w5 = wc := ⟨_, rfl⟩
  rw [← hw5] at HP HD ⊢
  clear hw5
  go_cut [21] (fun s21 wx => PM w wx src n L b1 o1 c1 a2 c2 b5 b6 bV vS vL vA bI bS bL bA bF bN vC m num span V (fun _ => -1) (fun i => i) (fun i => i) (fun _ => 0) (fun _ => -1) (fun _ => 0) ∧ wx.heap.size = vC)
  case first => as_aux_lemma =>
    go_wp2_with fail
    go_loopg [162] m (fun g s162 wr => ∃ x : Nat, x ≤ m ∧ g = m - x ∧ s162 = .int .i64 x ∧ PM w wr src n L b1 o1 c1 a2 c2 b5 b6 bV vS vL vA bI bS bL bA bF bN vC m num span V (fun i => if i < x then -1 else 0) (fun i => if i < x then i else 0) (fun i => if i < x then i else 0) (fun _ => 0) (fun i => if i < x then -1 else 0) (fun _ => 0) ∧ wr.heap.size = vC)
    case atStart => exact ⟨0, Nat.zero_le _, rfl, rfl, HP.out.congr (fun i _ => by simp) (fun i _ => by simp) (fun i _ => by simp) (fun i _ => by simp), HD.out.2⟩
    case round => as_aux_lemma =>
      clear HP
      obtain ⟨x, hx, rfl, rfl, hP, hsz⟩ := hrel
      by_cases hlt : x < m
      · have gS := cell_of_one hP.cS
        have gL := cell_of_one hP.cL
        have gA := cell_of_one hP.cA
        have eS : wr.cell? ⟨bS, x, none⟩ = some (.int .i32 0) := by have := hP.aS.cell hlt; rw [if_neg (by omega)] at this; exact this
        have eSf : wr.frozen? ⟨bS, x, none⟩ = false := hP.aS.frozen _
        have eL : wr.cell? ⟨bL, x, none⟩ = some (.int .i32 0) := by have := hP.aL.cell hlt; rw [if_neg (by omega)] at this; exact this
        have eLf : wr.frozen? ⟨bL, x, none⟩ = false := hP.aL.frozen _
        have eA : wr.cell? ⟨bA, x, none⟩ = some (.int .i32 0) := by have := hP.aA.cell hlt; rw [if_neg (by omega)] at this; exact this
        have eAf : wr.frozen? ⟨bA, x, none⟩ = false := hP.aA.frozen _
        have eF : wr.cell? ⟨bF, x, none⟩ = some (.int .i32 0) := by have := hP.aF.cell hlt; rw [if_neg (by omega)] at this; exact this
        have eFf : wr.frozen? ⟨bF, x, none⟩ = false := hP.aF.frozen _
        obtain ⟨n1, n2, n3, n4, n5, n6, n7, n8, n9, n10, n11, n12⟩ : bL ≠ bS ∧ bA ≠ bS ∧ bF ≠ bS ∧ bA ≠ bL ∧ bF ≠ bL ∧ bF ≠ bA ∧ vL ≠ bS ∧ vA ≠ bS ∧ vA ≠ bL ∧ vS ≠ bS ∧ vL ≠ bL ∧ vA ≠ bA := by
          have D := HD.out.1
          have r3 := D.r3
          exact ⟨Ne.symm D.SL, Ne.symm D.SA, by omega, Ne.symm D.LA, by omega, by omega, D.vLS, D.vAS, D.vAL, D.vSS, D.vLL, D.vAA⟩
        have A : Aside (PM w wr src n L b1 o1 c1 a2 c2 b5 b6 bV vS vL vA bI bS bL bA bF bN vC m num span V (fun i => if i < x then -1 else 0) (fun i => if i < x then i else 0) (fun i => if i < x then i else 0) (fun _ => 0) (fun i => if i < x then -1 else 0) (fun _ => 0) ∧ wr.heap.size = vC) := ⟨hP, hsz⟩
        clear hP hsz
        go_wp2
        go_region
        all_goals go_wp2
        go_roundg (m - (x + 1))
        case rel =>
          go_light
          have D := HD.out.1
          have hh := ((((A.out.1.setS D x x).setL D x x).setA D x (-1)).setF D x (-1)).drew
          exact ⟨x + 1, by omega, rfl, by go_num, hh.congr (fun i _ => upd_if (fun _ => -1) 0 x i) (fun i _ => upd_if (fun i => i) 0 x i) (fun i _ => upd_if (fun i => i) 0 x i) (fun i _ => upd_if (fun _ => -1) 0 x i), by simpa using A.out.2⟩
        case measure => go_light; omega
      · obtain rfl : x = m := by omega
        have A : Aside (PM w wr src n L b1 o1 c1 a2 c2 b5 b6 bV vS vL vA bI bS bL bA bF bN vC x num span V (fun i => if i < x then -1 else 0) (fun i => if i < x then i else 0) (fun i => if i < x then i else 0) (fun _ => 0) (fun i => if i < x then -1 else 0) (fun _ => 0) ∧ wr.heap.size = vC) := ⟨hP, hsz⟩
        clear hP hsz
        go_wp2
        go_meet
        case rel => exact ⟨A.out.1.congr (fun i hi => if_pos hi) (fun i hi => if_pos hi) (fun i hi => if_pos hi) (fun i hi => if_pos hi), A.out.2⟩
  have HP2 : Aside (PM w wc src n L b1 o1 c1 a2 c2 b5 b6 bV vS vL vA bI bS bL bA bF bN vC m num span V (fun _ => -1) (fun i => i) (fun i => i) (fun _ => 0) (fun _ => -1) (fun _ => 0) ∧ wc.heap.size = vC) := hcut
  clear hcut HP
  have hmf : ∀ (fn : Fn) (first : Array Value) (cap : Array Value) (w1 : World), (Instr.makeFunc fn first cap).run Try.prog w1 = .ok (.func fn first cap) w1 := fun _ _ _ _ => rfl
  go_upto_block 6 with fail
  have HP3 : Aside (PN w (wc.alloc (.cells #[.slice none 0 0] 22)) src n L b1 o1 c1 a2 c2 b5 b6 bV vS vL vA bI bS bL bA bF bN vC m num span V (fun _ => -1) (fun i => i) (fun i => i) (fun _ => 0) (fun _ => -1) (fun _ => 0)) := by
    have hs7 := HP2.out.2
    have hk : Below vC wc (wc.alloc (.cells #[.slice none 0 0] 22)) := (Below.refl _ _).alloc (by omega) _
    refine ⟨HP2.out.1.later HD.out.1 hk, ⟨.slice none 0 0, 0, [], ?_, World.ownsRow_nil _ _ _ _⟩, by show _ ≤ (wc.heap.push _).size; rw [Array.size_push]; omega⟩
    rw [← hs7]
    exact heap_alloc_new _ _
  obtain ⟨E, hE⟩ : ∃ E, E = En m sf sc V := ⟨_, rfl⟩
  have HT : Aside (Tree m P E ∧ E = En m sf sc V) := ⟨by rw [hE]; exact HF.out.tree, hE⟩
  have hs7 : wc.heap.size = vC := HP2.out.2
  clear hE HP2
  rw [hs7] at ⊢
  clear hs7
  generalize wc.alloc (.cells #[.slice none 0 0] 22) = wr at HP3 ⊢
  go_cut [24] (fun s24 wx => ∃ anc sm lab d0 bf bn bk, LS m P E 1 anc sm lab d0 bf bn bk ∧ PN w wx src n L b1 o1 c1 a2 c2 b5 b6 bV vS vL vA bI bS bL bA bF bN vC m num span V anc sm lab d0 bf bn)
  case first => as_aux_lemma =>
    go_wp2_with fail
    go_loopg [24] (m - 1) (fun g s24 wr => ∃ (i : Nat) (anc : Nat → Int) (sm lab d0 : Nat → Nat) (bf bn : Nat → Int) (bk : Nat → List Nat), i + 1 ≤ m ∧ g = i + 0 ∧ s24 = .int .i32 i ∧ LS m P E (i + 1) anc sm lab d0 bf bn bk ∧ PN w wr src n L b1 o1 c1 a2 c2 b5 b6 bV vS vL vA bI bS bL bA bF bN vC m num span V anc sm lab d0 bf bn)
    case atStart => exact ⟨m - 1, _, _, _, _, _, _, fun _ => [], by omega, rfl, by first | rfl | (congr 1; omega), by rw [Nat.sub_add_cancel hm1]; exact LS.start (fun i j h => by rw [HT.out.2] at h; exact ⟨h.1, h.2.1⟩), HP3.out⟩
    case round => as_aux_lemma =>
      clear HP3
      obtain ⟨i, anc, sm, lab, d0, bf, bn, bk, him, hg, rfl, hL0, hP⟩ := hrel
      by_cases hi0 : i = 0
      · subst hi0
        have A : Aside (LS m P E 1 anc sm lab d0 bf bn bk ∧ PN w wr src n L b1 o1 c1 a2 c2 b5 b6 bV vS vL vA bI bS bL bA bF bN vC m num span V anc sm lab d0 bf bn) := ⟨hL0, hP⟩
        clear hL0 hP
        go_wp2
        go_meet
        case rel => exact ⟨anc, sm, lab, d0, bf, bn, bk, A.out.1, A.out.2⟩
      · have him2 : i < m := by omega
        have hi1 : 0 < i := by omega
        clear hi0
        obtain ⟨wv, hwv⟩ : ∃ wv, wv = V i := ⟨_, rfl⟩
        have hwn : wv < n := by rw [hwv]; exact HF.out.vlt i him2
        obtain ⟨lo, hlo⟩ : ∃ lo, lo = pf wv := ⟨_, rfl⟩
        obtain ⟨hi, hhi⟩ : ∃ hi, hi = pf (wv + 1) := ⟨_, rfl⟩
        have hlohi : lo ≤ hi := by rw [hlo, hhi]; exact HI.out.1.mono wv hwn
        have hhiL : hi ≤ L := by rw [hhi, ← HI.out.1.t]; exact HI.out.1.le _ _ (by omega) (Nat.le_refl _)
        obtain ⟨aq, cq, hsl, hrd⟩ := slice_mid a2 L c2 lo hi hlohi hhiL hLc
        have gV : wr.cell? ⟨bV, i, none⟩ = some (.int .i32 (wv : Int)) := by rw [hwv]; exact hP.pm.aV.cell him2
        have A : Aside (LS m P E (i + 1) anc sm lab d0 bf bn bk ∧ PN w wr src n L b1 o1 c1 a2 c2 b5 b6 bV vS vL vA bI bS bL bA bF bN vC m num span V anc sm lab d0 bf bn) := ⟨hL0, hP⟩
        have HR : Aside (wv = V i ∧ lo = pf wv ∧ hi = pf (wv + 1) ∧ ∀ w f, Reads w a2 L f → Reads w aq (hi - lo) (fun j => f (lo + j))) := ⟨hwv, hlo, hhi, hrd⟩
        have gb1 : wr.cell? ⟨w.heap.size, 1, none⟩ = some (.slice (some ⟨b1, o1, none⟩) (n + 1) c1) := by simp [World.cell?, hP.pm.pb.box]
        have gb2 : wr.cell? ⟨w.heap.size, 2, none⟩ = some (.slice a2 L c2) := by simp [World.cell?, hP.pm.pb.box]
        have gp1 : wr.cell? ⟨b1, o1 + wv, none⟩ = some (.int .i32 (lo : Int)) := by rw [hlo]; exact cell_later hP.pm.pb.bel (HI.out.2.1 wv (by omega))
        have gp2 : wr.cell? ⟨b1, o1 + (wv + 1), none⟩ = some (.int .i32 (hi : Int)) := by rw [hhi]; exact cell_later hP.pm.pb.bel (HI.out.2.1 (wv + 1) (by omega))
        clear hwv hlo hhi hrd hL0 hP
        go_upto_region 37 with fail
        go_quiet (fail)
        have A1 : Aside (LS m P E (i + 1) anc sm lab d0 bf bn bk ∧ PN w (wr.drewN nq) src n L b1 o1 c1 a2 c2 b5 b6 bV vS vL vA bI bS bL bA bF bN vC m num span V anc sm lab d0 bf bn) := ⟨A.out.1, A.out.2.drewN _⟩
        clear A gV gb1 gb2 gp1 gp2
        generalize wr.drewN nq = wr at A1 ⊢
        obtain ⟨dl, hdl⟩ : ∃ dl, dl = hi - lo := ⟨_, rfl⟩
        rw [← hdl] at HR ⊢
        have HQ : Aside (dl = hi - lo) := hdl
        have hdL : lo + dl = hi := by omega
        clear hdl
        go_upto_block 8 with fail
        go_cut [28] (fun s28 wx => ∃ (c : Nat) (anc' : Nat → Int) (lab' : Nat → Nat), AS m P E sm i dl lo pr V c anc' lab' ∧ PN w wx src n L b1 o1 c1 a2 c2 b5 b6 bV vS vL vA bI bS bL bA bF bN vC m num span V anc' (updN sm i c) lab' d0 bf bn)
        case first => as_aux_lemma =>
          go_wp2_with fail
          go_loopg [209] dl (fun g s209 wr => ∃ (x c : Nat) (anc' : Nat → Int) (lab' : Nat → Nat), x ≤ dl ∧ g = dl - x ∧ s209 = .int .i64 x ∧ AS m P E sm i x lo pr V c anc' lab' ∧ PN w wr src n L b1 o1 c1 a2 c2 b5 b6 bV vS vL vA bI bS bL bA bF bN vC m num span V anc' (updN sm i c) lab' d0 bf bn)
          case atStart => exact ⟨0, i, anc, lab, Nat.zero_le _, rfl, rfl, AS.start A1.out.1 him2, by rw [A1.out.1.same]; exact A1.out.2⟩
          case round => as_aux_lemma =>
            have HL : Aside (LS m P E (i + 1) anc sm lab d0 bf bn bk) := A1.out.1
            clear A1
            obtain ⟨x, c, anc', lab', hx, rfl, rfl, hAS, hP⟩ := hrel
            by_cases hxd : x < dl
            · obtain ⟨pv, hpv⟩ : ∃ pv, pv = pr (lo + x) := ⟨_, rfl⟩
              have hpvn : pv < n := by rw [hpv]; exact HI.out.1.lt _ (by omega)
              obtain ⟨qb, qo, hq, hqr⟩ : ∃ qb qo, aq = some ⟨qb, qo, none⟩ ∧ wr.cell? ⟨qb, qo + x, none⟩ = some (.int .i32 (pv : Int)) := by
                have h2 := HR.out.2.2.2 wr _ (HI.out.2.2.below hP.pm.pb.bel)
                obtain ⟨qb, qo, e, hh⟩ := h2 (by omega)
                exact ⟨qb, qo, e, by rw [hpv]; exact hh x (by omega)⟩
              subst hq
              obtain ⟨nv, hnv⟩ : ∃ nv, nv = num pv := ⟨_, rfl⟩
              have g5 : wr.cell? ⟨b5, pv, none⟩ = some (.int .i32 nv) := by rw [hnv]; exact hP.pm.a5.cell hpvn
              have A : Aside (AS m P E sm i x lo pr V c anc' lab' ∧ PN w wr src n L b1 o1 c1 a2 c2 b5 b6 bV vS vL vA bI bS bL bA bF bN vC m num span V anc' (updN sm i c) lab' d0 bf bn) := ⟨hAS, hP⟩
              have HN : Aside (nv = num pv ∧ pv = pr (lo + x)) := ⟨hnv, hpv⟩
              clear hAS hP hpv
              by_cases hneg : nv < 0
              · clear hnv
                go_wp2
                go_roundg (dl - (x + 1))
                case rel =>
                  go_light
                  exact ⟨x + 1, c, anc', lab', by omega, rfl, by go_num, A.out.1.skip HF.out (by rw [← HN.out.2, ← HN.out.1]; exact hneg), A.out.2⟩
                case measure => go_light; omega
              · obtain ⟨z, hz, hVz, hzn⟩ := HF.out.seen hpvn (by rw [← hnv]; omega)
                have hz2 : nv = (z : Int) := by rw [hnv]; exact hzn
                subst hz2
                have HZ : Aside (V z = pv) := hVz
                clear hnv hVz hzn hneg
                go_wp2_with fail
                refine (eval31 (vC + 1) vA vC vS vL bA bS bL m (i + 1) z P E anc' (updN sm i c) lab' wr HT.out.1 (by omega) hz HD.out.1.ed A.out.1.fo A.out.2.em A.out.1.bd.al A.out.1.bd.sl).mono ?_
                rintro r w1 ⟨u, anc2, lab2, rfl, hu, hok, hfo, hem, htn, hb2⟩
                have A2 : Aside (AS m P E sm i (x + 1) lo pr V (if updN sm i c u < c then updN sm i c u else c) anc2 lab2 ∧ PN w w1 src n L b1 o1 c1 a2 c2 b5 b6 bV vS vL vA bI bS bL bA bF bN vC m num span V anc2 (updN sm i c) lab2 d0 bf bn) := by
                  refine ⟨A.out.1.step HT.out.1 (fun i j hi hj e => HF.out.inj hi hj e) (fun k hk => HL.out.lp.self k (by omega)) him2 hz hu (by rw [HZ.out, HN.out.2]) ?_ hok hfo hb2, A.out.2.evald HD.out.1 hem htn⟩
                  rw [HT.out.2]
                  refine ⟨hz, him2, (HG.out.2.1 _ _ (HF.out.vlt z hz) (HF.out.vlt i him2)).2 ⟨lo + x, ?_, ?_, ?_⟩⟩
                  · rw [← HR.out.1, ← HR.out.2.1]; omega
                  · rw [← HR.out.1, ← HR.out.2.2.1]; omega
                  · rw [HZ.out, HN.out.2]
                clear A hok hfo hem htn hb2 g5 hqr HN HZ
                obtain ⟨su, hsu⟩ : ∃ su, su = updN sm i c u := ⟨_, rfl⟩
                have gS := cell_of_one A2.out.2.pm.cS
                have gu : w1.cell? ⟨bS, u, none⟩ = some (.int .i32 (su : Int)) := by rw [hsu]; exact A2.out.2.pm.aS.cell hu
                have gi : w1.cell? ⟨bS, i, none⟩ = some (.int .i32 (c : Int)) := by have := A2.out.2.pm.aS.cell him2; rw [updN_same] at this; exact this
                rw [← hsu] at A2
                clear hsu
                by_cases hlt : su < c
                · rw [if_pos hlt] at A2
                  go_wp2_with fail
                  go_quiet (fail)
                  have A3 : Aside (AS m P E sm i (x + 1) lo pr V su anc2 lab2 ∧ PN w (w1.drewN nq) src n L b1 o1 c1 a2 c2 b5 b6 bV vS vL vA bI bS bL bA bF bN vC m num span V anc2 (updN sm i c) lab2 d0 bf bn) := ⟨A2.out.1, A2.out.2.drewN _⟩
                  have gS' : (w1.drewN nq).cell? ⟨vS, 0, none⟩ = some (.slice (some ⟨bS, 0, none⟩) m m) := gS
                  have gu' : (w1.drewN nq).cell? ⟨bS, u, none⟩ = some (.int .i32 (su : Int)) := gu
                  have gi' : (w1.drewN nq).cell? ⟨bS, i, none⟩ = some (.int .i32 (c : Int)) := gi
                  have gf : (w1.drewN nq).frozen? ⟨bS, i, none⟩ = false := A3.out.2.pm.aS.frozen _
                  clear A2 gS gu gi
                  generalize w1.drewN nq = wr at A3 gS' gu' gi' gf ⊢
                  go_wp2
                  go_region
                  all_goals go_wp2
                  go_roundg (dl - (x + 1))
                  case rel =>
                    go_light
                    have hh := (A3.out.2.setS HD.out.1 i su).drew
                    rw [updN_twice] at hh
                    exact ⟨x + 1, su, anc2, lab2, by omega, rfl, by go_num, A3.out.1, hh⟩
                  case measure => go_light; omega
                · rw [if_neg hlt] at A2
                  go_wp2_with fail
                  go_quiet (fail)
                  have A3 : Aside (AS m P E sm i (x + 1) lo pr V c anc2 lab2 ∧ PN w (w1.drewN nq) src n L b1 o1 c1 a2 c2 b5 b6 bV vS vL vA bI bS bL bA bF bN vC m num span V anc2 (updN sm i c) lab2 d0 bf bn) := ⟨A2.out.1, A2.out.2.drewN _⟩
                  clear A2 gS gu gi
                  generalize w1.drewN nq = wr at A3 ⊢
                  go_wp2
                  go_roundg (dl - (x + 1))
                  case rel =>
                    go_light
                    exact ⟨x + 1, c, anc2, lab2, by omega, rfl, by go_num, A3.out.1, A3.out.2⟩
                  case measure => go_light; omega
            · obtain rfl : x = dl := by omega
              have A : Aside (AS m P E sm i x lo pr V c anc' lab' ∧ PN w wr src n L b1 o1 c1 a2 c2 b5 b6 bV vS vL vA bI bS bL bA bF bN vC m num span V anc' (updN sm i c) lab' d0 bf bn) := ⟨hAS, hP⟩
              clear hAS hP
              go_wp2
              go_meet
              case rel => exact ⟨c, anc', lab', A.out.1, A.out.2⟩
        obtain ⟨c, anc', lab', hAS, hP2⟩ := hcut
        have hbs := BS.start HT.out.1 A1.out.1 hi1 him2 hAS (fun v hv => by
          rw [HT.out.2] at hv
          obtain ⟨hv1, _, hv2⟩ := hv
          obtain ⟨k, h1, h2, h3⟩ := (HG.out.2.1 _ _ (HF.out.vlt v hv1) (HF.out.vlt i him2)).1 hv2
          rw [← HR.out.1, ← HR.out.2.1] at h1
          rw [← HR.out.1, ← HR.out.2.2.1] at h2
          exact ⟨hv1, k - lo, by omega, by rw [Nat.add_sub_cancel' h1]; exact h3⟩)
        obtain ⟨hbs1, hll, hci⟩ := hbs
        obtain ⟨fc, hfc⟩ : ∃ fc, fc = bf c := ⟨_, rfl⟩
        have hcm : c < m := by omega
        have gS := cell_of_one hP2.pm.cS
        have gi : wc.cell? ⟨bS, i, none⟩ = some (.int .i32 (c : Int)) := by have := hP2.pm.aS.cell him2; rw [updN_same] at this; exact this
        have gF : wc.cell? ⟨bF, c, none⟩ = some (.int .i32 fc) := by rw [hfc]; exact hP2.pm.aF.cell hcm
        have gFf : wc.frozen? ⟨bF, c, none⟩ = false := hP2.pm.aF.frozen _
        have gN : wc.cell? ⟨bN, i, none⟩ = some (.int .i32 (bn i)) := hP2.pm.aN.cell him2
        have gNf : wc.frozen? ⟨bN, i, none⟩ = false := hP2.pm.aN.frozen _
        obtain ⟨n1, n2, n3, n4, n5⟩ : bS ≠ bN ∧ bS ≠ bF ∧ vS ≠ bN ∧ vS ≠ bF ∧ bN ≠ bF := by
          have D := HD.out.1
          have r3 := D.r3
          have r4 := D.r4
          exact ⟨by omega, by omega, by omega, by omega, Ne.symm D.r5⟩
        have A2 : Aside (BS m P E i (updN anc' i (P i : Int)) (updN sm i c) lab' d0 (updN bf c (i : Int)) (updN bn i (bf c)) (updN bk c (i :: bk c)) (updN bk c (i :: bk c) (P i)) ∧ LL (updN bn i (bf c)) (updN bf c (i : Int) (P i)) (updN bk c (i :: bk c) (P i))) := ⟨hbs1, hll⟩
        have A3 : Aside (PN w wc src n L b1 o1 c1 a2 c2 b5 b6 bV vS vL vA bI bS bL bA bF bN vC m num span V anc' (updN sm i c) lab' d0 bf bn) := hP2
        have HC : Aside (fc = bf c) := hfc
        clear A1 hAS hP2 hbs1 hll hfc
        go_upto_region 46 with fail
        go_region
        all_goals go_upto_region 47 with fail
        have A4 : Aside (PN w (((wc.setCell ⟨bN, i, none⟩ (.int .i32 fc)).setCell ⟨bF, c, none⟩ (.int .i32 (i : Int))).drew) src n L b1 o1 c1 a2 c2 b5 b6 bV vS vL vA bI bS bL bA bF bN vC m num span V anc' (updN sm i c) lab' d0 (updN bf c (i : Int)) (updN bn i (bf c))) := by
          have h := ((A3.out.setN HD.out.1 i fc).setF HD.out.1 c (i : Int)).drew
          rw [HC.out] at h ⊢
          exact h
        clear A3 HC gS gi gF gFf gN gNf n1 n2 n3 n4 n5
        generalize ((wc.setCell ⟨bN, i, none⟩ (.int .i32 fc)).setCell ⟨bF, c, none⟩ (.int .i32 (i : Int))).drew = wr at A4 ⊢
        generalize updN bf c (i : Int) = bf2 at A2 A4
        generalize updN bn i (bf c) = bn2 at A2 A4
        generalize updN bk c (i :: bk c) = bk2 at A2
        generalize updN sm i c = sm2 at A2 A4
        clear hci hcm
        obtain ⟨p, hp⟩ : ∃ p, p = P i := ⟨_, rfl⟩
        have hpi : p < i := by rw [hp]; exact HF.out.plt i hi1 him2
        have hpm : p < m := by omega
        rw [← hp] at A2
        obtain ⟨sv, hsv⟩ : ∃ sv, sv = V p := ⟨_, rfl⟩
        have hsvn : sv < n := by rw [hsv]; exact HF.out.vlt p hpm
        have g6 : wr.cell? ⟨b6, wv, none⟩ = some (.int .i32 (sv : Int)) := by
          have h := A4.out.pm.a6.cell hwn
          rw [show span wv = (sv : Int) by rw [HR.out.1, (HF.out.sp i hi1 him2).2.1, hsv, hp]] at h
          exact h
        have g5 : wr.cell? ⟨b5, sv, none⟩ = some (.int .i32 (p : Int)) := by
          have h := A4.out.pm.a5.cell hsvn
          rw [show num sv = (p : Int) by rw [hsv]; exact HF.out.numV p hpm] at h
          exact h
        have gA := cell_of_one A4.out.pm.cA
        have gAi : wr.cell? ⟨bA, i, none⟩ = some (.int .i32 (anc' i)) := A4.out.pm.aA.cell him2
        have gAf : wr.frozen? ⟨bA, i, none⟩ = false := A4.out.pm.aA.frozen _
        obtain ⟨h0, hh0⟩ : ∃ h0, h0 = bf2 p := ⟨_, rfl⟩
        have gFp : wr.cell? ⟨bF, p, none⟩ = some (.int .i32 h0) := by rw [hh0]; exact A4.out.pm.aF.cell hpm
        have n1 : bF ≠ bA := by have r3 := HD.out.1.r3; omega
        have HPp : Aside (p = P i ∧ sv = V p ∧ h0 = bf2 p) := ⟨hp, hsv, hh0⟩
        clear hp hsv hh0
        go_upto_block 10 with fail
        have A5 : Aside (BS m P E i (updN anc' i (p : Int)) sm2 lab' d0 bf2 bn2 bk2 (bk2 p) ∧ LL bn2 h0 (bk2 p) ∧ PN w (wr.setCell ⟨bA, i, none⟩ (.int .i32 (p : Int))) src n L b1 o1 c1 a2 c2 b5 b6 bV vS vL vA bI bS bL bA bF bN vC m num span V (updN anc' i (p : Int)) sm2 lab' d0 bf2 bn2) := ⟨A2.out.1, by rw [HPp.out.2.2]; exact A2.out.2, A4.out.setA HD.out.1 i (p : Int)⟩
        clear A2 A4 g6 g5 gA gAi gAf gFp n1
        generalize wr.setCell ⟨bA, i, none⟩ (.int .i32 (p : Int)) = wr at A5 ⊢
        go_cut [31] (fun s31 wx => ∃ (anc : Nat → Int) (lab d0 : Nat → Nat), BS m P E i anc sm2 lab d0 bf2 bn2 bk2 [] ∧ PN w wx src n L b1 o1 c1 a2 c2 b5 b6 bV vS vL vA bI bS bL bA bF bN vC m num span V anc sm2 lab d0 bf2 bn2)
        case first => as_aux_lemma =>
          go_wp2_with fail
          go_loopg [31] ((bk2 p).length + 0) (fun g s31 wr => ∃ (left : List Nat) (h : Int) (anc : Nat → Int) (lab d0 : Nat → Nat), g = left.length + 0 ∧ s31 = .int .i32 h ∧ LL bn2 h left ∧ BS m P E i anc sm2 lab d0 bf2 bn2 bk2 left ∧ PN w wr src n L b1 o1 c1 a2 c2 b5 b6 bV vS vL vA bI bS bL bA bF bN vC m num span V anc sm2 lab d0 bf2 bn2)
          case atStart => exact ⟨bk2 p, h0, _, _, _, rfl, rfl, A5.out.2.1, A5.out.1, A5.out.2.2⟩
          case round => as_aux_lemma =>
            clear A5
            obtain ⟨left, hd, anc3, lab3, d3, hg2, rfl, hll, hB, hP⟩ := hrel
            cases left with
            | nil =>
              have hd1 : hd = -1 := hll
              subst hd1
              have A : Aside (BS m P E i anc3 sm2 lab3 d3 bf2 bn2 bk2 [] ∧ PN w wr src n L b1 o1 c1 a2 c2 b5 b6 bV vS vL vA bI bS bL bA bF bN vC m num span V anc3 sm2 lab3 d3 bf2 bn2) := ⟨hB, hP⟩
              clear hB hP hll hg2
              go_wp2
              go_meet
              case rel => exact ⟨anc3, lab3, d3, A.out.1, A.out.2⟩
            | cons k t =>
              obtain ⟨hdk, hll2⟩ : hd = (k : Int) ∧ LL bn2 (bn2 k) t := hll
              subst hdk
              obtain ⟨hik, hk, _⟩ := hB.mid.bks _ k (hB.mid.sub k List.mem_cons_self)
              have A : Aside (BS m P E i anc3 sm2 lab3 d3 bf2 bn2 bk2 (k :: t) ∧ PN w wr src n L b1 o1 c1 a2 c2 b5 b6 bV vS vL vA bI bS bL bA bF bN vC m num span V anc3 sm2 lab3 d3 bf2 bn2) := ⟨hB, hP⟩
              have HL2 : Aside (LL bn2 (bn2 k) t) := hll2
              clear hB hP hll2 hik
              go_wp2_with fail
              refine (eval31 (vC + 1) vA vC vS vL bA bS bL m i k P E anc3 sm2 lab3 wr HT.out.1 (by omega) hk HD.out.1.ed A.out.1.mid.forest A.out.2.em A.out.1.bd.al A.out.1.bd.sl).mono ?_
              rintro r w1 ⟨u, anc4, lab4, rfl, hu, hok, hfo, hem, htn, hb2⟩
              have A2 : Aside (BS m P E i anc4 sm2 lab4 (updN d3 k (if sm2 u < sm2 k then u else p)) bf2 bn2 bk2 t ∧ PN w w1 src n L b1 o1 c1 a2 c2 b5 b6 bV vS vL vA bI bS bL bA bF bN vC m num span V anc4 sm2 lab4 d3 bf2 bn2) :=
                ⟨by rw [HPp.out.1]; exact A.out.1.step HT.out.1 hi1 him2 hok hfo hb2, A.out.2.evald HD.out.1 hem htn⟩
              clear A hok hfo hem htn hb2
              obtain ⟨su, hsu⟩ : ∃ su, su = sm2 u := ⟨_, rfl⟩
              obtain ⟨sk, hsk⟩ : ∃ sk, sk = sm2 k := ⟨_, rfl⟩
              obtain ⟨nk, hnk⟩ : ∃ nk, nk = bn2 k := ⟨_, rfl⟩
              have gS := cell_of_one A2.out.2.pm.cS
              have gu : w1.cell? ⟨bS, u, none⟩ = some (.int .i32 (su : Int)) := by rw [hsu]; exact A2.out.2.pm.aS.cell hu
              have gk : w1.cell? ⟨bS, k, none⟩ = some (.int .i32 (sk : Int)) := by rw [hsk]; exact A2.out.2.pm.aS.cell hk
              rw [← hsu, ← hsk] at A2
              have HK : Aside (nk = bn2 k) := hnk
              clear hsu hsk
              have n1 : bN ≠ bI := by have r4 := HD.out.1.r4; omega
              by_cases hlt : su < sk
              · rw [if_pos hlt] at A2
                go_wp2_with fail
                go_quiet (fail)
                have A3 : Aside (BS m P E i anc4 sm2 lab4 (updN d3 k u) bf2 bn2 bk2 t ∧ PN w (w1.drewN nq) src n L b1 o1 c1 a2 c2 b5 b6 bV vS vL vA bI bS bL bA bF bN vC m num span V anc4 sm2 lab4 d3 bf2 bn2) := ⟨A2.out.1, A2.out.2.drewN _⟩
                clear A2 gS gu gk
                generalize w1.drewN nq = wr at A3 ⊢
                have gI : wr.cell? ⟨bI, k, none⟩ = some (.int .i32 (d3 k : Int)) := A3.out.2.pm.aI.cell hk
                have gIf : wr.frozen? ⟨bI, k, none⟩ = false := A3.out.2.pm.aI.frozen _
                have gNk : wr.cell? ⟨bN, k, none⟩ = some (.int .i32 nk) := by rw [hnk]; exact A3.out.2.pm.aN.cell hk
                clear hnk
                go_wp2
                go_roundg t.length
                case rel =>
                  go_light
                  exact ⟨t, nk, anc4, lab4, updN d3 k u, rfl, rfl, by rw [HK.out]; exact HL2.out, A3.out.1, A3.out.2.setI HD.out.1 k u⟩
                case measure =>
                  go_light
                  rw [hg2]
                  simp only [List.length_cons]
                  omega
              · rw [if_neg hlt] at A2
                go_wp2_with fail
                go_quiet (fail)
                have A3 : Aside (BS m P E i anc4 sm2 lab4 (updN d3 k p) bf2 bn2 bk2 t ∧ PN w (w1.drewN nq) src n L b1 o1 c1 a2 c2 b5 b6 bV vS vL vA bI bS bL bA bF bN vC m num span V anc4 sm2 lab4 d3 bf2 bn2) := ⟨A2.out.1, A2.out.2.drewN _⟩
                clear A2 gS gu gk
                generalize w1.drewN nq = wr at A3 ⊢
                have gI : wr.cell? ⟨bI, k, none⟩ = some (.int .i32 (d3 k : Int)) := A3.out.2.pm.aI.cell hk
                have gIf : wr.frozen? ⟨bI, k, none⟩ = false := A3.out.2.pm.aI.frozen _
                have gNk : wr.cell? ⟨bN, k, none⟩ = some (.int .i32 nk) := by rw [hnk]; exact A3.out.2.pm.aN.cell hk
                clear hnk
                go_wp2
                go_roundg t.length
                case rel =>
                  go_light
                  exact ⟨t, nk, anc4, lab4, updN d3 k p, rfl, rfl, by rw [HK.out]; exact HL2.out, A3.out.1, A3.out.2.setI HD.out.1 k p⟩
                case measure =>
                  go_light
                  rw [hg2]
                  simp only [List.length_cons]
                  omega
        obtain ⟨anc3, lab3, d3, hB, hP⟩ := hcut
        have gFp : wc.cell? ⟨bF, p, none⟩ = some (.int .i32 (bf2 p)) := hP.pm.aF.cell hpm
        have gFf : wc.frozen? ⟨bF, p, none⟩ = false := hP.pm.aF.frozen _
        have A6 : Aside (BS m P E i anc3 sm2 lab3 d3 bf2 bn2 bk2 [] ∧ PN w wc src n L b1 o1 c1 a2 c2 b5 b6 bV vS vL vA bI bS bL bA bF bN vC m num span V anc3 sm2 lab3 d3 bf2 bn2) := ⟨hB, hP⟩
        clear hB hP A5
        go_wp2
        go_roundg (i - 1)
        case rel =>
          go_light
          refine ⟨i - 1, anc3, sm2, lab3, d3, updN bf2 p (-1), bn2, updN bk2 p [], by omega, rfl, by go_num, ?_, A6.out.2.setF HD.out.1 p (-1)⟩
          rw [Nat.sub_add_cancel hi1, HPp.out.1]
          exact A6.out.1.over
        case measure => go_light; rw [hg]; omega
  obtain ⟨anc, sm, lab, d0, bf, bn, bk, hL1, hP1⟩ := hcut
  have HS : Aside (Semi m P E sm ∧ ∀ w, 0 < w → w < m → First m P sm d0 w) := hL1.lp.all
  have HB : Aside (PN w wc src n L b1 o1 c1 a2 c2 b5 b6 bV vS vL vA bI bS bL bA bF bN vC m num span V anc sm lab d0 bf bn) := hP1
  clear hL1 hP1 HP3
  go_upto_block 12 with fail
  obtain ⟨w6, hw6⟩ : ∃ w6 : World, w6 = wc := ⟨_, rfl⟩
  rw [← hw6] at HB ⊢
  clear hw6
  go_cut [33] (fun s33 wx => ∃ d : Nat → Nat, LP m sm d0 m d ∧ PN w wx src n L b1 o1 c1 a2 c2 b5 b6 bV vS vL vA bI bS bL bA bF bN vC m num span V anc sm lab d bf bn)
  case first => as_aux_lemma =>
    go_wp2_with fail
    go_loopg [33] (m - 1) (fun g s33 wr => ∃ (j : Nat) (d : Nat → Nat), 1 ≤ j ∧ j ≤ m ∧ g = m - j ∧ s33 = .int .i64 j ∧ LP m sm d0 j d ∧ PN w wr src n L b1 o1 c1 a2 c2 b5 b6 bV vS vL vA bI bS bL bA bF bN vC m num span V anc sm lab d bf bn)
    case atStart => exact ⟨1, d0, Nat.le_refl _, hm1, rfl, rfl, LP.start HT.out.1 HS.out.1 HS.out.2, HB.out⟩
    case round => as_aux_lemma =>
      clear HB
      obtain ⟨j, d, hj1, hj2, rfl, rfl, hL1, hP⟩ := hrel
      by_cases hjm : j < m
      · obtain ⟨x0, hx0⟩ : ∃ x0, x0 = d0 j := ⟨_, rfl⟩
        obtain ⟨sj, hsj⟩ : ∃ sj, sj = sm j := ⟨_, rfl⟩
        have hx0j : x0 < j := by rw [hx0]; exact hL1.lt j (by omega) hjm
        have hdj : d j = d0 j := hL1.old j (Nat.le_refl _)
        have gS := cell_of_one hP.pm.cS
        have gSj : wr.cell? ⟨bS, j, none⟩ = some (.int .i32 (sj : Int)) := by rw [hsj]; exact hP.pm.aS.cell hjm
        have gI : wr.cell? ⟨bI, j, none⟩ = some (.int .i32 (x0 : Int)) := by have := hP.pm.aI.cell hjm; rw [hdj, ← hx0] at this; exact this
        have hst := hL1.step (by omega) hjm
        rw [← hsj, ← hx0] at hst
        have A : Aside (PN w wr src n L b1 o1 c1 a2 c2 b5 b6 bV vS vL vA bI bS bL bA bF bN vC m num span V anc sm lab d bf bn ∧ d j = x0) := ⟨hP, by rw [hdj, hx0]⟩
        clear hP hL1 hx0 hsj hdj
        by_cases hne : x0 = sj
        · subst hne
          rw [if_pos rfl, updN_self _ _ _ A.out.2] at hst
          have A2 : Aside (LP m sm d0 (j + 1) d) := hst
          clear hst
          go_wp2_with fail
          go_quiet (fail)
          have A3 : Aside (PN w (wr.drewN nq) src n L b1 o1 c1 a2 c2 b5 b6 bV vS vL vA bI bS bL bA bF bN vC m num span V anc sm lab d bf bn) := A.out.1.drewN _
          clear A gS gSj gI
          generalize wr.drewN nq = wr at A3 ⊢
          go_wp2
          go_roundg (m - (j + 1))
          case rel =>
            go_light
            exact ⟨j + 1, d, by omega, by omega, rfl, by go_num, A2.out, A3.out⟩
          case measure => go_light; omega
        · rw [if_neg hne] at hst
          obtain ⟨y, hy⟩ : ∃ y, y = d x0 := ⟨_, rfl⟩
          rw [← hy] at hst
          have A2 : Aside (LP m sm d0 (j + 1) (updN d j y)) := hst
          have hne2 : ((x0 : Int) == (sj : Int)) = false := by simp; omega
          clear hst
          go_wp2_with fail
          go_quiet (fail)
          have A3 : Aside (PN w (wr.drewN nq) src n L b1 o1 c1 a2 c2 b5 b6 bV vS vL vA bI bS bL bA bF bN vC m num span V anc sm lab d bf bn) := A.out.1.drewN _
          have gI' : (wr.drewN nq).cell? ⟨bI, j, none⟩ = some (.int .i32 (x0 : Int)) := gI
          clear gS gSj gI
          generalize wr.drewN nq = wr at A3 gI' ⊢
          have gI2 : wr.cell? ⟨bI, x0, none⟩ = some (.int .i32 (y : Int)) := by rw [hy]; exact A3.out.pm.aI.cell (by omega)
          have gIf : wr.frozen? ⟨bI, j, none⟩ = false := A3.out.pm.aI.frozen _
          clear A hy
          go_wp2
          go_roundg (m - (j + 1))
          case rel =>
            go_light
            exact ⟨j + 1, updN d j y, by omega, by omega, rfl, by go_num, A2.out, A3.out.setI HD.out.1 j y⟩
          case measure => go_light; omega
      · obtain rfl : j = m := by omega
        have A : Aside (LP j sm d0 j d ∧ PN w wr src n L b1 o1 c1 a2 c2 b5 b6 bV vS vL vA bI bS bL bA bF bN vC j num span V anc sm lab d bf bn) := ⟨hL1, hP⟩
        clear hL1 hP
        go_wp2
        go_meet
        case rel => exact ⟨d, A.out.1, A.out.2⟩
  obtain ⟨d, hLP, hP⟩ := hcut
  have hid := idom_ok HT.out.1 (by omega) HS.out.1 HS.out.2 hLP.last
  have hdt := dom_tree hid
  have HX : Aside ((∀ w, 0 < w → w < m → d w < w) ∧ ∀ b, b < m → ∀ a, ¬ RA E a b ↔ Anc d a b) := ⟨fun w h0 h1 => (hid w h0 h1).1, hdt⟩
  have HB2 : Aside (PN w wc src n L b1 o1 c1 a2 c2 b5 b6 bV vS vL vA bI bS bL bA bF bN vC m num span V anc sm lab d bf bn) := hP
  clear hLP hP hid hdt HB
  go_wp2_with fail
  refine (num28 bV cV bI m n m V d wc hm1 hmn hn2 HF.out.vlt (fun i j hi hj e => HF.out.inj hi hj e) HX.out.1 HB2.out.pm.aV HB2.out.pm.aI).mono ?_
  rintro r w1 ⟨bp, bq, pre, post, preV, postV, rfl, hbp, hbq, r1, r2, hN, hL1, hL2, hbel⟩
  have hszc := HB2.out.sz
  have hvCH : w.heap.size + 2 < vC := by have D := HD.out.1; have := D.r1; have := D.r2; have := D.r3; have := D.r6; omega
  have hres : w1.heap[w.heap.size + 1]? = some (.cells #[.slice none 0 0, .slice none 0 0] 46 (0, 0)) := (hbel.block _ (by omega)).trans HB2.out.pm.pb.res
  have q2 : w1.cell? ⟨w.heap.size + 1, 0, none⟩ = some (.slice none 0 0) := by simp [World.cell?, hres]
  have q3 : w1.cell? ⟨w.heap.size + 1, 1, none⟩ = some (.slice none 0 0) := by simp [World.cell?, hres]
  have q4 : w1.frozen? ⟨w.heap.size + 1, 0, none⟩ = false := by simp [World.frozen?, hres]
  have q5 : w1.frozen? ⟨w.heap.size + 1, 1, none⟩ = false := by simp [World.frozen?, hres]
  have hbn1 : bp ≠ w.heap.size + 1 := by omega
  have hbn2 : bq ≠ w.heap.size + 1 := by omega
  have hbn3 : b6 ≠ w.heap.size + 1 := by have := HD.out.1.r1; omega
  have HZ : Aside (Arr w1 bp n preV ∧ Arr w1 bq n postV ∧ Arr w1 b6 n span ∧ Nums m d pre post ∧ Laid n m V pre preV ∧ Laid n m V post postV ∧ Below w.heap.size w w1 ∧ w1.heap[w.heap.size + 1]? = some (.cells #[.slice none 0 0, .slice none 0 0] 46 (0, 0))) :=
    ⟨r1, r2, HB2.out.pm.a6.below hbel, hN, hL1, hL2, HB2.out.pm.pb.bel.trans (hbel.mono (by omega)), hres⟩
  clear r1 r2 hN hL1 hL2 hbel hres HB2 hbp hbq
  go_wp2
  refine bodyPost_ret (res27 rfl (w.heap.size + 1) rfl (.slice (some ⟨bp, 0, none⟩) n n) (.slice (some ⟨bq, 0, none⟩) n n) _ ?_) rfl ?_
  · exact (Go.heap_setCell_same _ _ _ _ _ _ (Go.heap_setCell_same _ _ _ _ _ _ HZ.out.2.2.2.2.2.2.2)).trans rfl
  obtain ⟨z1, z2, z3, z4, z5, z6, z7, _⟩ := HZ.out
  refine ⟨bp, bq, b6, m, sf, sc, V, d, num, span, pre, post, preV, postV, P, rfl, (z1.other hbn1 _).other hbn1 _, (z2.other hbn2 _).other hbn2 _, (z3.other hbn3 _).other hbn3 _, HG.out.1, HG.out.2.1, HF.out, z4, ?_, z5, z6, (z7.setCell (by show _ ≤ w.heap.size + 1; omega) _).setCell (by show _ ≤ w.heap.size + 1; omega) _⟩
  intro i j hi hj
  rw [← HT.out.2]
  exact HX.out.2 j hj i
end Go.Proofs.Qxb6602963a
