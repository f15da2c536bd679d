/- A round of evalInner's loop, its switch by what is known of it. -/
import Derived.Test.YtkhicabfmkldpaaDoorEvB
import Derived.Deep.CutBlock
import Derived.Deep.LoopGhost
namespace Go.Proofs.YtkhicabfmkldpaaDoor
open Go.RowKit

def litErr (xb : Nat) (et : TypeId) (ex : Value) (u : Nat → Value) : Act := ⟨#[u 0, u 1, u 2, u 3, u 4, u 5, u 6, u 7, u 8, u 9, u 10, .iface et ex, u 12, u 13, u 14, u 15, u 16, u 17, u 18, u 19, u 20, u 21, u 22, u 23, u 24, u 25, u 26, u 27, u 28, u 29, u 30, u 31, u 32, u 33, u 34, u 35, u 36, u 37, u 38, u 39, u 40, u 41, u 42, u 43, u 44, u 45, u 46, u 47, u 48, u 49, u 50, u 51, u 52, u 53, u 54, u 55, u 56, u 57, u 58, u 59, u 60, u 61, u 62, u 63, u 64, u 65, u 66, u 67, u 68, u 69, u 70, u 71, u 72, u 73, u 74, u 75, u 76, u 77, u 78, u 79, u 80, u 81, u 82, u 83, u 84, u 85, u 86, u 87, u 88, u 89, u 90, u 91, u 92, u 93, u 94, u 95, u 96, u 97, u 98, u 99, u 100, u 101, u 102, u 103, u 104, u 105, u 106, u 107, u 108, u 109, u 110, u 111, u 112, u 113, u 114, u 115, u 116, u 117, u 118, u 119, u 120, u 121, u 122, u 123, u 124, u 125, u 126, u 127, u 128, u 129, u 130, u 131, u 132, u 133, u 134, u 135, u 136, u 137, u 138, u 139, u 140, u 141, u 142, u 143, u 144, u 145, u 146, u 147, u 148, u 149, u 150, u 151, u 152, u 153, u 154, u 155, u 156, u 157, u 158, u 159, u 160, u 161, u 162, u 163, u 164, u 165, u 166, u 167, u 168, u 169, u 170, u 171, u 172, u 173, u 174, u 175, u 176, u 177, u 178, u 179, u 180, u 181, u 182, u 183, u 184, u 185, u 186, u 187, u 188, u 189, u 190, u 191, u 192, u 193, u 194, u 195, u 196, u 197, u 198, u 199, u 200, u 201, u 202, u 203, u 204, u 205, u 206, u 207, u 208, u 209, u 210, u 211, u 212, u 213, u 214, u 215, u 216, u 217, u 218, u 219, u 220, u 221, u 222, u 223, u 224, u 225, u 226, u 227, u 228, u 229, u 230, u 231, u 232, u 233, u 234, u 235, u 236, u 237, u 238, u 239, u 240, u 241, u 242, u 243, u 244, u 245, u 246, u 247, u 248, u 249, u 250, u 251, u 252, u 253, u 254, u 255, u 256, u 257, u 258, u 259, u 260, u 261, u 262, u 263, u 264, u 265, u 266, u 267, u 268, u 269, u 270, u 271, u 272, u 273, u 274, u 275, u 276, u 277, u 278, u 279, u 280, u 281, u 282, u 283, u 284, u 285, u 286, u 287, u 288, u 289, u 290, u 291, u 292, u 293, u 294, u 295, u 296, u 297, u 298, u 299, u 300, u 301, u 302, u 303, u 304, u 305, u 306, u 307, u 308, u 309, u 310, u 311, u 312, u 313, u 314, u 315, u 316, u 317, u 318, u 319, u 320, u 321, u 322, u 323, u 324, u 325, u 326, u 327, u 328, u 329, u 330, u 331, u 332, u 333, u 334, u 335, u 336, u 337, u 338, u 339, u 340, u 341, u 342, u 343, u 344, u 345, u 346, u 347, u 348, u 349, u 350, u 351, u 352, u 353, u 354, u 355, u 356, u 357, u 358, u 359, u 360, u 361, u 362, u 363, u 364, u 365, u 366, u 367, u 368, u 369, u 370, u 371, u 372, u 373, u 374, u 375, u 376, u 377, u 378, u 379, u 380, u 381, u 382, u 383, u 384, u 385, u 386, u 387, u 388, u 389, u 390, u 391, u 392, u 393, u 394, u 395, u 396, u 397, u 398, u 399, u 400, u 401, u 402, u 403, u 404, u 405, u 406, u 407, u 408, u 409, u 410, u 411, u 412, u 413, u 414, u 415, u 416, u 417, u 418], dfr29 xb⟩

set_option maxRecDepth 1000000 in
theorem ErrAt.lit {R : Rig} {xb fb : Nat} {w w' : World} {s : St} {a : Act} (h : ErrAt R xb fb w s a w') : ∃ et ex p u, a = litErr xb et ex u ∧ IsErr R w' (.iface et ex) ∧ Inv R { s with pos := p } w' := by
  obtain ⟨ev, p, h11, he, hi⟩ := h.err
  obtain ⟨et, ex, rfl⟩ := he.form
  refine ⟨et, ex, p, fun k => a.tmps.getD k undef, ?_, he, hi⟩
  have e : a.tmps = #[a.tmps.getD 0 undef, a.tmps.getD 1 undef, a.tmps.getD 2 undef, a.tmps.getD 3 undef, a.tmps.getD 4 undef, a.tmps.getD 5 undef, a.tmps.getD 6 undef, a.tmps.getD 7 undef, a.tmps.getD 8 undef, a.tmps.getD 9 undef, a.tmps.getD 10 undef, a.tmps.getD 11 undef, a.tmps.getD 12 undef, a.tmps.getD 13 undef, a.tmps.getD 14 undef, a.tmps.getD 15 undef, a.tmps.getD 16 undef, a.tmps.getD 17 undef, a.tmps.getD 18 undef, a.tmps.getD 19 undef, a.tmps.getD 20 undef, a.tmps.getD 21 undef, a.tmps.getD 22 undef, a.tmps.getD 23 undef, a.tmps.getD 24 undef, a.tmps.getD 25 undef, a.tmps.getD 26 undef, a.tmps.getD 27 undef, a.tmps.getD 28 undef, a.tmps.getD 29 undef, a.tmps.getD 30 undef, a.tmps.getD 31 undef, a.tmps.getD 32 undef, a.tmps.getD 33 undef, a.tmps.getD 34 undef, a.tmps.getD 35 undef, a.tmps.getD 36 undef, a.tmps.getD 37 undef, a.tmps.getD 38 undef, a.tmps.getD 39 undef, a.tmps.getD 40 undef, a.tmps.getD 41 undef, a.tmps.getD 42 undef, a.tmps.getD 43 undef, a.tmps.getD 44 undef, a.tmps.getD 45 undef, a.tmps.getD 46 undef, a.tmps.getD 47 undef, a.tmps.getD 48 undef, a.tmps.getD 49 undef, a.tmps.getD 50 undef, a.tmps.getD 51 undef, a.tmps.getD 52 undef, a.tmps.getD 53 undef, a.tmps.getD 54 undef, a.tmps.getD 55 undef, a.tmps.getD 56 undef, a.tmps.getD 57 undef, a.tmps.getD 58 undef, a.tmps.getD 59 undef, a.tmps.getD 60 undef, a.tmps.getD 61 undef, a.tmps.getD 62 undef, a.tmps.getD 63 undef, a.tmps.getD 64 undef, a.tmps.getD 65 undef, a.tmps.getD 66 undef, a.tmps.getD 67 undef, a.tmps.getD 68 undef, a.tmps.getD 69 undef, a.tmps.getD 70 undef, a.tmps.getD 71 undef, a.tmps.getD 72 undef, a.tmps.getD 73 undef, a.tmps.getD 74 undef, a.tmps.getD 75 undef, a.tmps.getD 76 undef, a.tmps.getD 77 undef, a.tmps.getD 78 undef, a.tmps.getD 79 undef, a.tmps.getD 80 undef, a.tmps.getD 81 undef, a.tmps.getD 82 undef, a.tmps.getD 83 undef, a.tmps.getD 84 undef, a.tmps.getD 85 undef, a.tmps.getD 86 undef, a.tmps.getD 87 undef, a.tmps.getD 88 undef, a.tmps.getD 89 undef, a.tmps.getD 90 undef, a.tmps.getD 91 undef, a.tmps.getD 92 undef, a.tmps.getD 93 undef, a.tmps.getD 94 undef, a.tmps.getD 95 undef, a.tmps.getD 96 undef, a.tmps.getD 97 undef, a.tmps.getD 98 undef, a.tmps.getD 99 undef, a.tmps.getD 100 undef, a.tmps.getD 101 undef, a.tmps.getD 102 undef, a.tmps.getD 103 undef, a.tmps.getD 104 undef, a.tmps.getD 105 undef, a.tmps.getD 106 undef, a.tmps.getD 107 undef, a.tmps.getD 108 undef, a.tmps.getD 109 undef, a.tmps.getD 110 undef, a.tmps.getD 111 undef, a.tmps.getD 112 undef, a.tmps.getD 113 undef, a.tmps.getD 114 undef, a.tmps.getD 115 undef, a.tmps.getD 116 undef, a.tmps.getD 117 undef, a.tmps.getD 118 undef, a.tmps.getD 119 undef, a.tmps.getD 120 undef, a.tmps.getD 121 undef, a.tmps.getD 122 undef, a.tmps.getD 123 undef, a.tmps.getD 124 undef, a.tmps.getD 125 undef, a.tmps.getD 126 undef, a.tmps.getD 127 undef, a.tmps.getD 128 undef, a.tmps.getD 129 undef, a.tmps.getD 130 undef, a.tmps.getD 131 undef, a.tmps.getD 132 undef, a.tmps.getD 133 undef, a.tmps.getD 134 undef, a.tmps.getD 135 undef, a.tmps.getD 136 undef, a.tmps.getD 137 undef, a.tmps.getD 138 undef, a.tmps.getD 139 undef, a.tmps.getD 140 undef, a.tmps.getD 141 undef, a.tmps.getD 142 undef, a.tmps.getD 143 undef, a.tmps.getD 144 undef, a.tmps.getD 145 undef, a.tmps.getD 146 undef, a.tmps.getD 147 undef, a.tmps.getD 148 undef, a.tmps.getD 149 undef, a.tmps.getD 150 undef, a.tmps.getD 151 undef, a.tmps.getD 152 undef, a.tmps.getD 153 undef, a.tmps.getD 154 undef, a.tmps.getD 155 undef, a.tmps.getD 156 undef, a.tmps.getD 157 undef, a.tmps.getD 158 undef, a.tmps.getD 159 undef, a.tmps.getD 160 undef, a.tmps.getD 161 undef, a.tmps.getD 162 undef, a.tmps.getD 163 undef, a.tmps.getD 164 undef, a.tmps.getD 165 undef, a.tmps.getD 166 undef, a.tmps.getD 167 undef, a.tmps.getD 168 undef, a.tmps.getD 169 undef, a.tmps.getD 170 undef, a.tmps.getD 171 undef, a.tmps.getD 172 undef, a.tmps.getD 173 undef, a.tmps.getD 174 undef, a.tmps.getD 175 undef, a.tmps.getD 176 undef, a.tmps.getD 177 undef, a.tmps.getD 178 undef, a.tmps.getD 179 undef, a.tmps.getD 180 undef, a.tmps.getD 181 undef, a.tmps.getD 182 undef, a.tmps.getD 183 undef, a.tmps.getD 184 undef, a.tmps.getD 185 undef, a.tmps.getD 186 undef, a.tmps.getD 187 undef, a.tmps.getD 188 undef, a.tmps.getD 189 undef, a.tmps.getD 190 undef, a.tmps.getD 191 undef, a.tmps.getD 192 undef, a.tmps.getD 193 undef, a.tmps.getD 194 undef, a.tmps.getD 195 undef, a.tmps.getD 196 undef, a.tmps.getD 197 undef, a.tmps.getD 198 undef, a.tmps.getD 199 undef, a.tmps.getD 200 undef, a.tmps.getD 201 undef, a.tmps.getD 202 undef, a.tmps.getD 203 undef, a.tmps.getD 204 undef, a.tmps.getD 205 undef, a.tmps.getD 206 undef, a.tmps.getD 207 undef, a.tmps.getD 208 undef, a.tmps.getD 209 undef, a.tmps.getD 210 undef, a.tmps.getD 211 undef, a.tmps.getD 212 undef, a.tmps.getD 213 undef, a.tmps.getD 214 undef, a.tmps.getD 215 undef, a.tmps.getD 216 undef, a.tmps.getD 217 undef, a.tmps.getD 218 undef, a.tmps.getD 219 undef, a.tmps.getD 220 undef, a.tmps.getD 221 undef, a.tmps.getD 222 undef, a.tmps.getD 223 undef, a.tmps.getD 224 undef, a.tmps.getD 225 undef, a.tmps.getD 226 undef, a.tmps.getD 227 undef, a.tmps.getD 228 undef, a.tmps.getD 229 undef, a.tmps.getD 230 undef, a.tmps.getD 231 undef, a.tmps.getD 232 undef, a.tmps.getD 233 undef, a.tmps.getD 234 undef, a.tmps.getD 235 undef, a.tmps.getD 236 undef, a.tmps.getD 237 undef, a.tmps.getD 238 undef, a.tmps.getD 239 undef, a.tmps.getD 240 undef, a.tmps.getD 241 undef, a.tmps.getD 242 undef, a.tmps.getD 243 undef, a.tmps.getD 244 undef, a.tmps.getD 245 undef, a.tmps.getD 246 undef, a.tmps.getD 247 undef, a.tmps.getD 248 undef, a.tmps.getD 249 undef, a.tmps.getD 250 undef, a.tmps.getD 251 undef, a.tmps.getD 252 undef, a.tmps.getD 253 undef, a.tmps.getD 254 undef, a.tmps.getD 255 undef, a.tmps.getD 256 undef, a.tmps.getD 257 undef, a.tmps.getD 258 undef, a.tmps.getD 259 undef, a.tmps.getD 260 undef, a.tmps.getD 261 undef, a.tmps.getD 262 undef, a.tmps.getD 263 undef, a.tmps.getD 264 undef, a.tmps.getD 265 undef, a.tmps.getD 266 undef, a.tmps.getD 267 undef, a.tmps.getD 268 undef, a.tmps.getD 269 undef, a.tmps.getD 270 undef, a.tmps.getD 271 undef, a.tmps.getD 272 undef, a.tmps.getD 273 undef, a.tmps.getD 274 undef, a.tmps.getD 275 undef, a.tmps.getD 276 undef, a.tmps.getD 277 undef, a.tmps.getD 278 undef, a.tmps.getD 279 undef, a.tmps.getD 280 undef, a.tmps.getD 281 undef, a.tmps.getD 282 undef, a.tmps.getD 283 undef, a.tmps.getD 284 undef, a.tmps.getD 285 undef, a.tmps.getD 286 undef, a.tmps.getD 287 undef, a.tmps.getD 288 undef, a.tmps.getD 289 undef, a.tmps.getD 290 undef, a.tmps.getD 291 undef, a.tmps.getD 292 undef, a.tmps.getD 293 undef, a.tmps.getD 294 undef, a.tmps.getD 295 undef, a.tmps.getD 296 undef, a.tmps.getD 297 undef, a.tmps.getD 298 undef, a.tmps.getD 299 undef, a.tmps.getD 300 undef, a.tmps.getD 301 undef, a.tmps.getD 302 undef, a.tmps.getD 303 undef, a.tmps.getD 304 undef, a.tmps.getD 305 undef, a.tmps.getD 306 undef, a.tmps.getD 307 undef, a.tmps.getD 308 undef, a.tmps.getD 309 undef, a.tmps.getD 310 undef, a.tmps.getD 311 undef, a.tmps.getD 312 undef, a.tmps.getD 313 undef, a.tmps.getD 314 undef, a.tmps.getD 315 undef, a.tmps.getD 316 undef, a.tmps.getD 317 undef, a.tmps.getD 318 undef, a.tmps.getD 319 undef, a.tmps.getD 320 undef, a.tmps.getD 321 undef, a.tmps.getD 322 undef, a.tmps.getD 323 undef, a.tmps.getD 324 undef, a.tmps.getD 325 undef, a.tmps.getD 326 undef, a.tmps.getD 327 undef, a.tmps.getD 328 undef, a.tmps.getD 329 undef, a.tmps.getD 330 undef, a.tmps.getD 331 undef, a.tmps.getD 332 undef, a.tmps.getD 333 undef, a.tmps.getD 334 undef, a.tmps.getD 335 undef, a.tmps.getD 336 undef, a.tmps.getD 337 undef, a.tmps.getD 338 undef, a.tmps.getD 339 undef, a.tmps.getD 340 undef, a.tmps.getD 341 undef, a.tmps.getD 342 undef, a.tmps.getD 343 undef, a.tmps.getD 344 undef, a.tmps.getD 345 undef, a.tmps.getD 346 undef, a.tmps.getD 347 undef, a.tmps.getD 348 undef, a.tmps.getD 349 undef, a.tmps.getD 350 undef, a.tmps.getD 351 undef, a.tmps.getD 352 undef, a.tmps.getD 353 undef, a.tmps.getD 354 undef, a.tmps.getD 355 undef, a.tmps.getD 356 undef, a.tmps.getD 357 undef, a.tmps.getD 358 undef, a.tmps.getD 359 undef, a.tmps.getD 360 undef, a.tmps.getD 361 undef, a.tmps.getD 362 undef, a.tmps.getD 363 undef, a.tmps.getD 364 undef, a.tmps.getD 365 undef, a.tmps.getD 366 undef, a.tmps.getD 367 undef, a.tmps.getD 368 undef, a.tmps.getD 369 undef, a.tmps.getD 370 undef, a.tmps.getD 371 undef, a.tmps.getD 372 undef, a.tmps.getD 373 undef, a.tmps.getD 374 undef, a.tmps.getD 375 undef, a.tmps.getD 376 undef, a.tmps.getD 377 undef, a.tmps.getD 378 undef, a.tmps.getD 379 undef, a.tmps.getD 380 undef, a.tmps.getD 381 undef, a.tmps.getD 382 undef, a.tmps.getD 383 undef, a.tmps.getD 384 undef, a.tmps.getD 385 undef, a.tmps.getD 386 undef, a.tmps.getD 387 undef, a.tmps.getD 388 undef, a.tmps.getD 389 undef, a.tmps.getD 390 undef, a.tmps.getD 391 undef, a.tmps.getD 392 undef, a.tmps.getD 393 undef, a.tmps.getD 394 undef, a.tmps.getD 395 undef, a.tmps.getD 396 undef, a.tmps.getD 397 undef, a.tmps.getD 398 undef, a.tmps.getD 399 undef, a.tmps.getD 400 undef, a.tmps.getD 401 undef, a.tmps.getD 402 undef, a.tmps.getD 403 undef, a.tmps.getD 404 undef, a.tmps.getD 405 undef, a.tmps.getD 406 undef, a.tmps.getD 407 undef, a.tmps.getD 408 undef, a.tmps.getD 409 undef, a.tmps.getD 410 undef, a.tmps.getD 411 undef, a.tmps.getD 412 undef, a.tmps.getD 413 undef, a.tmps.getD 414 undef, a.tmps.getD 415 undef, a.tmps.getD 416 undef, a.tmps.getD 417 undef, a.tmps.getD 418 undef] := (tmps_list a.tmps 419 h.size).trans (range419 _)
  unfold litErr
  rw [h11] at e
  rw [← e, ← h.dfr]

/-- What the end of a level with an error leaves. -/
structure EndErr (R : Rig) (xb fb : Nat) (w : World) (s : St) (a' : Act) (w' : World) : Prop where
  dfr : a'.defers = dfr29 xb
  s10 : a'.tmps.getD 10 undef = .bool false
  err : ∃ ev p, a'.tmps.getD 11 undef = ev ∧ IsErr R w' ev ∧ Inv R { s with pos := p } w'
  box : w'.heap[xb]? = some (.cells #[.pointer (some ⟨R.pb, 0, none⟩)] 66 (0, 0))
  xo : ¬ R.own xb
  keeps : KeepsG R fb w w'

/-- What is asked behind a round. -/
def RoundPost (R : Rig) (t : Int) (xb fb : Nat) (w : World) (o : Nxt) (K : Act → World → Prop) (Q : Exit → Act → World → Prop) : Prop :=
  match o with
  | .go r nul s => ∀ a' w', FrameInv R t xb fb nul a' → a'.tmps.getD 11 undef = .nilIface → Inv R s.nextPc w' → Loc R w' xb fb r → KeepsG R fb w w' → K a' w'
  | .ret nul s => ∀ a' w', RetAt R xb fb w nul s a' w' → Q .ret a' w'
  | .err s => ∀ a' w', EndErr R xb fb w s a' w' → Q .ret a' w'

theorem Inv.cP0 {R : Rig} {s : St} {w : World} (h : Inv R s w) : w.cell? ⟨R.pb, 0, none⟩ = some (.slice (some ⟨R.ib, 0, none⟩) R.ins.length R.icap) := by rw [cell_of_row _ _ _ _ _ _ h.prog]; rfl
theorem Inv.cP2 {R : Rig} {s : St} {w : World} (h : Inv R s w) : w.cell? ⟨R.pb, 2, none⟩ = some (.int .i64 (s.steps : Int)) := by rw [cell_of_row _ _ _ _ _ _ h.prog]; rfl
theorem Inv.cP3 {R : Rig} {s : St} {w : World} (h : Inv R s w) : w.cell? ⟨R.pb, 3, none⟩ = some (.int .i64 (s.depth : Int)) := by rw [cell_of_row _ _ _ _ _ _ h.prog]; rfl
theorem Inv.fP {R : Rig} {s : St} {w : World} (h : Inv R s w) (i : Nat) : w.frozen? ⟨R.pb, i, none⟩ = false := frozen_of_row _ _ _ _ _ h.prog

theorem Loc.boxCell {R : Rig} {w : World} {xb fb : Nat} {r : Regs} (h : Loc R w xb fb r) : w.cell? ⟨xb, 0, none⟩ = some (.pointer (some ⟨R.pb, 0, none⟩)) := by rw [cell_of_row _ _ _ _ _ _ h.box]; rfl
theorem Loc.alloc {R : Rig} {s : St} {w : World} {xb fb : Nat} {r : Regs} (hR : R.Ok) (hi : Inv R s w) (h : Loc R w xb fb r) (o : Obj) : Loc R (w.alloc o) xb fb r := h.keep ((Keeps.refl R w).alloc (hi.base hR) o)
theorem Loc.drewN {R : Rig} {w : World} {xb fb : Nat} {r : Regs} (h : Loc R w xb fb r) (n : Nat) : Loc R (w.drewN n) xb fb r := h.keep ((Keeps.refl R w).drewN n)

set_option maxRecDepth 1000000 in
set_option maxHeartbeats 8000000 in
theorem round_go {R : Rig} {s : St} {w : World} {a : Act} {t : Int} {xb fb k : Nat} {nul : Bool} {r : Regs} {op x : Int} {K : Act → World → Prop} {Q : Exit → Act → World → Prop} {r' : Regs} {nul' : Bool} {s' : St} (hb0 : -1 ≤ s'.pc) (hb1 : s'.pc ≤ 2000000) (hR : R.Ok) (h : Inv R s w) (hl : Loc R w xb fb r)
    (hf : FrameInv R t xb fb nul a) (h11 : a.tmps.getD 11 undef = .nilIface) (hpc : s.pc = (k : Int)) (hins : R.ins[k]? = some (op, x)) (hst : s.steps < 1048576)
    (hop : ∀ (a1 : Act) (w1 : World) (nb : Nat), Inv R { s with steps := s.steps + 1 } w1 → Loc R w1 xb fb r → FrameInv R t xb fb nul a1 → a1.tmps.getD 11 undef = .nilIface → a1.tmps.getD 15 undef = .pointer (some ⟨nb, 0, none⟩) →
      a1.tmps.getD 69 undef = .int .i64 op → w1.heap[nb]? = some (.cells #[.int .i64 op, .int .i64 x] 89 (0, 0)) → ¬ R.own nb → Code.wp Tryd.prog sw29 (After R t xb fb w1 (.go r' nul' s')) a1 w1)
    (hq : RoundPost R t xb fb w (.go r' nul' s') K Q) :
    Code.wp Tryd.prog body29 (Exit.then K Q) a w := by
  obtain ⟨u, rfl⟩ := hf.lit h11
  obtain ⟨hi0, hi1⟩ := hR.insOk k op x hins
  have hk : k < R.ins.length := (List.getElem?_eq_some_iff.1 hins).1
  have hif := hR.insFew
  have q1 := h.cPc
  rw [hpc] at q1
  have p0 := h.cP0
  have p2 := h.cP2
  have p2f := h.fP 2
  have bx := hl.boxCell
  have n0 : w.cell? ⟨R.ib, k * 2, none⟩ = some (.int .i64 op) := by rw [cell_of_row _ _ _ _ _ _ h.ins]; exact hi0
  have n1 : w.cell? ⟨R.ib, k * 2 + 1, none⟩ = some (.int .i64 x) := by rw [cell_of_row _ _ _ _ _ _ h.ins]; exact hi1
  have z1 := lt_of_block h.prog
  have z2 := lt_of_block h.pc
  have z3 := lt_of_block h.ins
  have z4 := lt_of_block hl.box
  have hlim : decide (1048576 < (s.steps : Int) + 1) = false := by rw [decide_eq_false_iff_not]; omega
  have hk0 : (0 : Int) ≤ (k : Int) := Int.natCast_nonneg _
  have hk1 : (k : Int) < (R.ins.length : Int) := by omega
  have Hf := Go.Lib.hid hf
  have Hpc := Go.Lib.hid hpc
  have Hop := Go.Lib.hid hop
  have Hq := Go.Lib.hid hq
  clear hop hq
  clear hf h11 hpc hi0 hi1 hins
  unfold lit29
  conv => arg 2; whnf
  go_wp2
  go_quiet (fail)
  have hw : KeepsG R fb w (w.drewN nq) := ((Keeps.refl R w).drewN nq).toG
  replace h := h.drewN nq
  replace hl := hl.drewN nq
  replace q1 : (w.drewN nq).cell? _ = _ := q1
  replace p0 : (w.drewN nq).cell? _ = _ := p0
  replace p2 : (w.drewN nq).cell? _ = _ := p2
  replace p2f : (w.drewN nq).frozen? _ = _ := p2f
  replace bx : (w.drewN nq).cell? _ = _ := bx
  replace n0 : (w.drewN nq).cell? _ = _ := n0
  replace n1 : (w.drewN nq).cell? _ = _ := n1
  replace z1 : _ < (w.drewN nq).heap.size := z1
  replace z2 : _ < (w.drewN nq).heap.size := z2
  replace z3 : _ < (w.drewN nq).heap.size := z3
  replace z4 : _ < (w.drewN nq).heap.size := z4
  generalize w.drewN nq = w1 at *
  go_wp2
  go_region
  dsimp only [Exit.then]
  rename_i K1 hK1 K2 hK2
  refine hK2 _ _ ?_
  clear hK2 K2
  go_upto_block 2 with (fail)
  rename_i K3 hK3
  have hno : ¬ R.own w1.heap.size := h.fresh
  have i3 := ((h.setSteps hR (s.steps + 1) (by omega)).alloc hR (.cells #[.int .i64 op, .int .i64 x] 89)).drew
  have k3 := (((Keeps.refl R w1).setCell (p := ⟨R.pb, 2, none⟩) hR.p (.inl (by simp [Rig.own])) (.int .i64 ((s.steps + 1 : Nat) : Int))).alloc (by rw [World.size_setCell]; exact h.base hR) (.cells #[.int .i64 op, .int .i64 x] 89)).drew
  have hin : ((w1.setCell ⟨R.pb, 2, none⟩ (.int .i64 ((s.steps + 1 : Nat) : Int))).alloc (.cells #[.int .i64 op, .int .i64 x] 89)).drew.heap[w1.heap.size]? = some (.cells #[.int .i64 op, .int .i64 x] 89 (0, 0)) := by
    have := heap_alloc_new (w1.setCell ⟨R.pb, 2, none⟩ (.int .i64 ((s.steps + 1 : Nat) : Int))) (.cells #[.int .i64 op, .int .i64 x] 89)
    rwa [World.size_setCell] at this
  have l3 := hl.keep k3
  refine wp_block (wp_mono (Hop.out _ _ w1.heap.size i3 l3 ⟨rfl, rfl, rfl, rfl, rfl, rfl, rfl, rfl, rfl⟩ rfl rfl rfl hin hno) ?_)
  have kw := hw.trans (k3.toG (g := fb))
  rintro e a' w' ⟨rfl, hg⟩
  show K3 a' w'
  refine hK3 _ _ ?_
  obtain ⟨u2, rfl⟩ := hg.frame.lit hg.err
  have q5 := hg.inv.cPc
  have q6 := hg.inv.fPc
  have i6 := hg.inv.setPc hR (s'.pc + 1)
  have k6 := (Keeps.refl R w').setCell (p := ⟨R.qb, 0, none⟩) hR.q (.inl (by simp [Rig.own])) (.int .i64 (s'.pc + 1))
  have l6 := hg.loc.keep k6
  have kz := (kw.trans hg.keeps).trans (k6.toG (g := fb))
  have Hg := Go.Lib.hid hg
  clear hg K3 hK3 q1 p0 p2 p2f bx n0 n1 z1 z2 z3 z4 hlim i3 k3 hin l3
  unfold lit29
  go_wp2
  exact Hq.out _ _ ⟨rfl, rfl, rfl, rfl, rfl, rfl, rfl, rfl, rfl⟩ rfl i6 l6 kz

set_option maxRecDepth 1000000 in
set_option maxHeartbeats 8000000 in
theorem round_ret {R : Rig} {s : St} {w : World} {a : Act} {t : Int} {xb fb k : Nat} {nul : Bool} {r : Regs} {op x : Int} {K : Act → World → Prop} {Q : Exit → Act → World → Prop} {nul' : Bool} {s' : St} (hR : R.Ok) (h : Inv R s w) (hl : Loc R w xb fb r)
    (hf : FrameInv R t xb fb nul a) (h11 : a.tmps.getD 11 undef = .nilIface) (hpc : s.pc = (k : Int)) (hins : R.ins[k]? = some (op, x)) (hst : s.steps < 1048576)
    (hop : ∀ (a1 : Act) (w1 : World) (nb : Nat), Inv R { s with steps := s.steps + 1 } w1 → Loc R w1 xb fb r → FrameInv R t xb fb nul a1 → a1.tmps.getD 11 undef = .nilIface → a1.tmps.getD 15 undef = .pointer (some ⟨nb, 0, none⟩) →
      a1.tmps.getD 69 undef = .int .i64 op → w1.heap[nb]? = some (.cells #[.int .i64 op, .int .i64 x] 89 (0, 0)) → ¬ R.own nb → Code.wp Tryd.prog sw29 (After R t xb fb w1 (.ret nul' s')) a1 w1)
    (hq : RoundPost R t xb fb w (.ret nul' s') K Q) :
    Code.wp Tryd.prog body29 (Exit.then K Q) a w := by
  obtain ⟨u, rfl⟩ := hf.lit h11
  obtain ⟨hi0, hi1⟩ := hR.insOk k op x hins
  have hk : k < R.ins.length := (List.getElem?_eq_some_iff.1 hins).1
  have hif := hR.insFew
  have q1 := h.cPc
  rw [hpc] at q1
  have p0 := h.cP0
  have p2 := h.cP2
  have p2f := h.fP 2
  have bx := hl.boxCell
  have n0 : w.cell? ⟨R.ib, k * 2, none⟩ = some (.int .i64 op) := by rw [cell_of_row _ _ _ _ _ _ h.ins]; exact hi0
  have n1 : w.cell? ⟨R.ib, k * 2 + 1, none⟩ = some (.int .i64 x) := by rw [cell_of_row _ _ _ _ _ _ h.ins]; exact hi1
  have z1 := lt_of_block h.prog
  have z2 := lt_of_block h.pc
  have z3 := lt_of_block h.ins
  have z4 := lt_of_block hl.box
  have hlim : decide (1048576 < (s.steps : Int) + 1) = false := by rw [decide_eq_false_iff_not]; omega
  have hk0 : (0 : Int) ≤ (k : Int) := Int.natCast_nonneg _
  have hk1 : (k : Int) < (R.ins.length : Int) := by omega
  have Hf := Go.Lib.hid hf
  have Hpc := Go.Lib.hid hpc
  have Hop := Go.Lib.hid hop
  have Hq := Go.Lib.hid hq
  clear hop hq
  clear hf h11 hpc hi0 hi1 hins
  unfold lit29
  conv => arg 2; whnf
  go_wp2
  go_quiet (fail)
  have hw : KeepsG R fb w (w.drewN nq) := ((Keeps.refl R w).drewN nq).toG
  replace h := h.drewN nq
  replace hl := hl.drewN nq
  replace q1 : (w.drewN nq).cell? _ = _ := q1
  replace p0 : (w.drewN nq).cell? _ = _ := p0
  replace p2 : (w.drewN nq).cell? _ = _ := p2
  replace p2f : (w.drewN nq).frozen? _ = _ := p2f
  replace bx : (w.drewN nq).cell? _ = _ := bx
  replace n0 : (w.drewN nq).cell? _ = _ := n0
  replace n1 : (w.drewN nq).cell? _ = _ := n1
  replace z1 : _ < (w.drewN nq).heap.size := z1
  replace z2 : _ < (w.drewN nq).heap.size := z2
  replace z3 : _ < (w.drewN nq).heap.size := z3
  replace z4 : _ < (w.drewN nq).heap.size := z4
  generalize w.drewN nq = w1 at *
  go_wp2
  go_region
  dsimp only [Exit.then]
  rename_i K1 hK1 K2 hK2
  refine hK2 _ _ ?_
  clear hK2 K2
  go_upto_block 2 with (fail)
  rename_i K3 hK3
  have hno : ¬ R.own w1.heap.size := h.fresh
  have i3 := ((h.setSteps hR (s.steps + 1) (by omega)).alloc hR (.cells #[.int .i64 op, .int .i64 x] 89)).drew
  have k3 := (((Keeps.refl R w1).setCell (p := ⟨R.pb, 2, none⟩) hR.p (.inl (by simp [Rig.own])) (.int .i64 ((s.steps + 1 : Nat) : Int))).alloc (by rw [World.size_setCell]; exact h.base hR) (.cells #[.int .i64 op, .int .i64 x] 89)).drew
  have hin : ((w1.setCell ⟨R.pb, 2, none⟩ (.int .i64 ((s.steps + 1 : Nat) : Int))).alloc (.cells #[.int .i64 op, .int .i64 x] 89)).drew.heap[w1.heap.size]? = some (.cells #[.int .i64 op, .int .i64 x] 89 (0, 0)) := by
    have := heap_alloc_new (w1.setCell ⟨R.pb, 2, none⟩ (.int .i64 ((s.steps + 1 : Nat) : Int))) (.cells #[.int .i64 op, .int .i64 x] 89)
    rwa [World.size_setCell] at this
  have l3 := hl.keep k3
  refine wp_block (wp_mono (Hop.out _ _ w1.heap.size i3 l3 ⟨rfl, rfl, rfl, rfl, rfl, rfl, rfl, rfl, rfl⟩ rfl rfl rfl hin hno) ?_)
  have kw := hw.trans (k3.toG (g := fb))
  rintro e a' w' ⟨rfl, hg⟩
  exact Hq.out _ _ ⟨hg.size, hg.dfr, hg.s10, hg.s11, hg.inv, hg.box, hg.xo, kw.trans hg.keeps⟩

set_option maxRecDepth 1000000 in
set_option maxHeartbeats 8000000 in
theorem round_err {R : Rig} {s : St} {w : World} {a : Act} {t : Int} {xb fb k : Nat} {nul : Bool} {r : Regs} {op x : Int} {K : Act → World → Prop} {Q : Exit → Act → World → Prop} {s' : St} (hR : R.Ok) (h : Inv R s w) (hl : Loc R w xb fb r)
    (hf : FrameInv R t xb fb nul a) (h11 : a.tmps.getD 11 undef = .nilIface) (hpc : s.pc = (k : Int)) (hins : R.ins[k]? = some (op, x)) (hst : s.steps < 1048576)
    (hop : ∀ (a1 : Act) (w1 : World) (nb : Nat), Inv R { s with steps := s.steps + 1 } w1 → Loc R w1 xb fb r → FrameInv R t xb fb nul a1 → a1.tmps.getD 11 undef = .nilIface → a1.tmps.getD 15 undef = .pointer (some ⟨nb, 0, none⟩) →
      a1.tmps.getD 69 undef = .int .i64 op → w1.heap[nb]? = some (.cells #[.int .i64 op, .int .i64 x] 89 (0, 0)) → ¬ R.own nb → Code.wp Tryd.prog sw29 (After R t xb fb w1 (.err s')) a1 w1)
    (hq : RoundPost R t xb fb w (.err s') K Q) :
    Code.wp Tryd.prog body29 (Exit.then K Q) a w := by
  obtain ⟨u, rfl⟩ := hf.lit h11
  obtain ⟨hi0, hi1⟩ := hR.insOk k op x hins
  have hk : k < R.ins.length := (List.getElem?_eq_some_iff.1 hins).1
  have hif := hR.insFew
  have q1 := h.cPc
  rw [hpc] at q1
  have p0 := h.cP0
  have p2 := h.cP2
  have p2f := h.fP 2
  have bx := hl.boxCell
  have n0 : w.cell? ⟨R.ib, k * 2, none⟩ = some (.int .i64 op) := by rw [cell_of_row _ _ _ _ _ _ h.ins]; exact hi0
  have n1 : w.cell? ⟨R.ib, k * 2 + 1, none⟩ = some (.int .i64 x) := by rw [cell_of_row _ _ _ _ _ _ h.ins]; exact hi1
  have z1 := lt_of_block h.prog
  have z2 := lt_of_block h.pc
  have z3 := lt_of_block h.ins
  have z4 := lt_of_block hl.box
  have hlim : decide (1048576 < (s.steps : Int) + 1) = false := by rw [decide_eq_false_iff_not]; omega
  have hk0 : (0 : Int) ≤ (k : Int) := Int.natCast_nonneg _
  have hk1 : (k : Int) < (R.ins.length : Int) := by omega
  have Hf := Go.Lib.hid hf
  have Hpc := Go.Lib.hid hpc
  have Hop := Go.Lib.hid hop
  have Hq := Go.Lib.hid hq
  clear hop hq
  clear hf h11 hpc hi0 hi1 hins
  unfold lit29
  conv => arg 2; whnf
  go_wp2
  go_quiet (fail)
  have hw : KeepsG R fb w (w.drewN nq) := ((Keeps.refl R w).drewN nq).toG
  replace h := h.drewN nq
  replace hl := hl.drewN nq
  replace q1 : (w.drewN nq).cell? _ = _ := q1
  replace p0 : (w.drewN nq).cell? _ = _ := p0
  replace p2 : (w.drewN nq).cell? _ = _ := p2
  replace p2f : (w.drewN nq).frozen? _ = _ := p2f
  replace bx : (w.drewN nq).cell? _ = _ := bx
  replace n0 : (w.drewN nq).cell? _ = _ := n0
  replace n1 : (w.drewN nq).cell? _ = _ := n1
  replace z1 : _ < (w.drewN nq).heap.size := z1
  replace z2 : _ < (w.drewN nq).heap.size := z2
  replace z3 : _ < (w.drewN nq).heap.size := z3
  replace z4 : _ < (w.drewN nq).heap.size := z4
  generalize w.drewN nq = w1 at *
  go_wp2
  go_region
  dsimp only [Exit.then]
  rename_i K1 hK1 K2 hK2
  refine hK2 _ _ ?_
  clear hK2 K2
  go_upto_block 2 with (fail)
  rename_i K3 hK3
  have hno : ¬ R.own w1.heap.size := h.fresh
  have i3 := ((h.setSteps hR (s.steps + 1) (by omega)).alloc hR (.cells #[.int .i64 op, .int .i64 x] 89)).drew
  have k3 := (((Keeps.refl R w1).setCell (p := ⟨R.pb, 2, none⟩) hR.p (.inl (by simp [Rig.own])) (.int .i64 ((s.steps + 1 : Nat) : Int))).alloc (by rw [World.size_setCell]; exact h.base hR) (.cells #[.int .i64 op, .int .i64 x] 89)).drew
  have hin : ((w1.setCell ⟨R.pb, 2, none⟩ (.int .i64 ((s.steps + 1 : Nat) : Int))).alloc (.cells #[.int .i64 op, .int .i64 x] 89)).drew.heap[w1.heap.size]? = some (.cells #[.int .i64 op, .int .i64 x] 89 (0, 0)) := by
    have := heap_alloc_new (w1.setCell ⟨R.pb, 2, none⟩ (.int .i64 ((s.steps + 1 : Nat) : Int))) (.cells #[.int .i64 op, .int .i64 x] 89)
    rwa [World.size_setCell] at this
  have l3 := hl.keep k3
  refine wp_block (wp_mono (Hop.out _ _ w1.heap.size i3 l3 ⟨rfl, rfl, rfl, rfl, rfl, rfl, rfl, rfl, rfl⟩ rfl rfl rfl hin hno) ?_)
  have kw := hw.trans (k3.toG (g := fb))
  rintro e a' w' ⟨rfl, hg⟩
  show K3 a' w'
  refine hK3 _ _ ?_
  obtain ⟨et, ex, p, u2, rfl, hx, hi⟩ := hg.lit
  have Hg := Go.Lib.hid hg
  clear hg q1 p0 p2 p2f bx n0 n1 z1 z2 z3 z4 hlim i3 k3 hin l3
  unfold litErr
  go_wp2
  exact Hq.out _ _ ⟨rfl, rfl, ⟨_, p, rfl, hx, hi⟩, Hg.out.box, Hg.out.xo, kw.trans Hg.out.keeps⟩

end Go.Proofs.YtkhicabfmkldpaaDoor
