/- addRoute's loop: its code in pieces, its frame in letters. -/
import Derived.Test.YtcobbbbnmepmfaaAdd2
import Derived.Test.YtcobbbbnmepmfaaInsert
import Derived.Deep.CutBlock
import Derived.WalkMore
namespace Go.Proofs.Ytcobbbbnmepmfaa
open Go Go.RowKit Go.Lib Tr

def firstLoop : Code → Option Code
  | .loop c => some c
  | .seq a b => match firstLoop a with
    | some c => some c
    | none => firstLoop b
  | .block _ c => firstLoop c
  | .scope c => firstLoop c
  | .cond _ a b => match firstLoop a with
    | some c => some c
    | none => firstLoop b
  | _ => none
def unblock : Code → Code
  | .block _ c => c
  | c => c
def fst : Code → Code
  | .seq a _ => a
  | c => c
def snd : Code → Code
  | .seq _ b => b
  | c => c
noncomputable def roBody : Code := (Try.f37.body.bind firstLoop).getD .skip
/-- maxParams -/
noncomputable def roA : Code := fst (unblock roBody)
/-- the common prefix -/
noncomputable def roB : Code := snd (unblock roBody)
/-- the split -/
noncomputable def roC : Code := fst (snd (snd (snd roB)))
/-- below -/
noncomputable def roD : Code := fst (snd (snd (snd (snd roB))))

def thn : Code → Code
  | .cond _ a _ => a
  | c => c
def els : Code → Code
  | .cond _ _ b => b
  | c => c
/-- the split's own: what of the children bears on maxParams -/
noncomputable def roCk : Code := fst (snd (thn (snd roC)))
/-- .. and the upper node -/
noncomputable def roCe : Code := snd (snd (thn (snd roC)))

/-- The frame: the six slots that count. -/
structure Fr (a : Act) (v0 v1 v2 v6 v7 v8 : Value) : Prop where
  size : a.tmps.size = 420
  df : a.defers = []
  s0 : a.tmps.getD 0 undef = v0
  s1 : a.tmps.getD 1 undef = v1
  s2 : a.tmps.getD 2 undef = v2
  s6 : a.tmps.getD 6 undef = v6
  s7 : a.tmps.getD 7 undef = v7
  s8 : a.tmps.getD 8 undef = v8

theorem list_range {l : List Value} {n : Nat} (h : l.length = n) : l = (List.range n).map fun i => l.getD i undef := by
  subst h
  refine List.ext_getElem? fun i => ?_
  rw [List.getElem?_map]
  by_cases hi : i < l.length
  · rw [List.getElem?_range hi, List.getElem?_eq_getElem hi]
    simp [List.getD, List.getElem?_eq_getElem hi]
  · rw [List.getElem?_eq_none (by omega), List.getElem?_eq_none (by simpa using Nat.le_of_not_lt hi)]; rfl

set_option maxRecDepth 100000 in
theorem Fr.lit {a : Act} {v0 v1 v2 v6 v7 v8 : Value} (h : Fr a v0 v1 v2 v6 v7 v8) : ∃ g : Nat → Value, (∀ i, g i = a.tmps.getD i undef) ∧ a = ⟨#[v0, v1, v2, g 3, g 4, g 5, v6, v7, v8, g 9, g 10, g 11, g 12, g 13, g 14, g 15, g 16, g 17, g 18, g 19, g 20, g 21, g 22, g 23, g 24, g 25, g 26, g 27, g 28, g 29, g 30, g 31, g 32, g 33, g 34, g 35, g 36, g 37, g 38, g 39, g 40, g 41, g 42, g 43, g 44, g 45, g 46, g 47, g 48, g 49, g 50, g 51, g 52, g 53, g 54, g 55, g 56, g 57, g 58, g 59, g 60, g 61, g 62, g 63, g 64, g 65, g 66, g 67, g 68, g 69, g 70, g 71, g 72, g 73, g 74, g 75, g 76, g 77, g 78, g 79, g 80, g 81, g 82, g 83, g 84, g 85, g 86, g 87, g 88, g 89, g 90, g 91, g 92, g 93, g 94, g 95, g 96, g 97, g 98, g 99, g 100, g 101, g 102, g 103, g 104, g 105, g 106, g 107, g 108, g 109, g 110, g 111, g 112, g 113, g 114, g 115, g 116, g 117, g 118, g 119, g 120, g 121, g 122, g 123, g 124, g 125, g 126, g 127, g 128, g 129, g 130, g 131, g 132, g 133, g 134, g 135, g 136, g 137, g 138, g 139, g 140, g 141, g 142, g 143, g 144, g 145, g 146, g 147, g 148, g 149, g 150, g 151, g 152, g 153, g 154, g 155, g 156, g 157, g 158, g 159, g 160, g 161, g 162, g 163, g 164, g 165, g 166, g 167, g 168, g 169, g 170, g 171, g 172, g 173, g 174, g 175, g 176, g 177, g 178, g 179, g 180, g 181, g 182, g 183, g 184, g 185, g 186, g 187, g 188, g 189, g 190, g 191, g 192, g 193, g 194, g 195, g 196, g 197, g 198, g 199, g 200, g 201, g 202, g 203, g 204, g 205, g 206, g 207, g 208, g 209, g 210, g 211, g 212, g 213, g 214, g 215, g 216, g 217, g 218, g 219, g 220, g 221, g 222, g 223, g 224, g 225, g 226, g 227, g 228, g 229, g 230, g 231, g 232, g 233, g 234, g 235, g 236, g 237, g 238, g 239, g 240, g 241, g 242, g 243, g 244, g 245, g 246, g 247, g 248, g 249, g 250, g 251, g 252, g 253, g 254, g 255, g 256, g 257, g 258, g 259, g 260, g 261, g 262, g 263, g 264, g 265, g 266, g 267, g 268, g 269, g 270, g 271, g 272, g 273, g 274, g 275, g 276, g 277, g 278, g 279, g 280, g 281, g 282, g 283, g 284, g 285, g 286, g 287, g 288, g 289, g 290, g 291, g 292, g 293, g 294, g 295, g 296, g 297, g 298, g 299, g 300, g 301, g 302, g 303, g 304, g 305, g 306, g 307, g 308, g 309, g 310, g 311, g 312, g 313, g 314, g 315, g 316, g 317, g 318, g 319, g 320, g 321, g 322, g 323, g 324, g 325, g 326, g 327, g 328, g 329, g 330, g 331, g 332, g 333, g 334, g 335, g 336, g 337, g 338, g 339, g 340, g 341, g 342, g 343, g 344, g 345, g 346, g 347, g 348, g 349, g 350, g 351, g 352, g 353, g 354, g 355, g 356, g 357, g 358, g 359, g 360, g 361, g 362, g 363, g 364, g 365, g 366, g 367, g 368, g 369, g 370, g 371, g 372, g 373, g 374, g 375, g 376, g 377, g 378, g 379, g 380, g 381, g 382, g 383, g 384, g 385, g 386, g 387, g 388, g 389, g 390, g 391, g 392, g 393, g 394, g 395, g 396, g 397, g 398, g 399, g 400, g 401, g 402, g 403, g 404, g 405, g 406, g 407, g 408, g 409, g 410, g 411, g 412, g 413, g 414, g 415, g 416, g 417, g 418, g 419], []⟩ := by
  refine ⟨fun i => a.tmps.getD i undef, fun _ => rfl, ?_⟩
  obtain ⟨t, df⟩ := a
  obtain ⟨l⟩ := t
  obtain ⟨hs, hd, rfl, rfl, rfl, rfl, rfl, rfl⟩ := h
  have hd' : df = [] := hd
  subst hd'
  have hl : l.length = 420 := hs
  have h1 : l = [l.getD 0 undef, l.getD 1 undef, l.getD 2 undef, l.getD 3 undef, l.getD 4 undef, l.getD 5 undef, l.getD 6 undef, l.getD 7 undef, l.getD 8 undef, l.getD 9 undef, l.getD 10 undef, l.getD 11 undef, l.getD 12 undef, l.getD 13 undef, l.getD 14 undef, l.getD 15 undef, l.getD 16 undef, l.getD 17 undef, l.getD 18 undef, l.getD 19 undef, l.getD 20 undef, l.getD 21 undef, l.getD 22 undef, l.getD 23 undef, l.getD 24 undef, l.getD 25 undef, l.getD 26 undef, l.getD 27 undef, l.getD 28 undef, l.getD 29 undef, l.getD 30 undef, l.getD 31 undef, l.getD 32 undef, l.getD 33 undef, l.getD 34 undef, l.getD 35 undef, l.getD 36 undef, l.getD 37 undef, l.getD 38 undef, l.getD 39 undef, l.getD 40 undef, l.getD 41 undef, l.getD 42 undef, l.getD 43 undef, l.getD 44 undef, l.getD 45 undef, l.getD 46 undef, l.getD 47 undef, l.getD 48 undef, l.getD 49 undef, l.getD 50 undef, l.getD 51 undef, l.getD 52 undef, l.getD 53 undef, l.getD 54 undef, l.getD 55 undef, l.getD 56 undef, l.getD 57 undef, l.getD 58 undef, l.getD 59 undef, l.getD 60 undef, l.getD 61 undef, l.getD 62 undef, l.getD 63 undef, l.getD 64 undef, l.getD 65 undef, l.getD 66 undef, l.getD 67 undef, l.getD 68 undef, l.getD 69 undef, l.getD 70 undef, l.getD 71 undef, l.getD 72 undef, l.getD 73 undef, l.getD 74 undef, l.getD 75 undef, l.getD 76 undef, l.getD 77 undef, l.getD 78 undef, l.getD 79 undef, l.getD 80 undef, l.getD 81 undef, l.getD 82 undef, l.getD 83 undef, l.getD 84 undef, l.getD 85 undef, l.getD 86 undef, l.getD 87 undef, l.getD 88 undef, l.getD 89 undef, l.getD 90 undef, l.getD 91 undef, l.getD 92 undef, l.getD 93 undef, l.getD 94 undef, l.getD 95 undef, l.getD 96 undef, l.getD 97 undef, l.getD 98 undef, l.getD 99 undef, l.getD 100 undef, l.getD 101 undef, l.getD 102 undef, l.getD 103 undef, l.getD 104 undef, l.getD 105 undef, l.getD 106 undef, l.getD 107 undef, l.getD 108 undef, l.getD 109 undef, l.getD 110 undef, l.getD 111 undef, l.getD 112 undef, l.getD 113 undef, l.getD 114 undef, l.getD 115 undef, l.getD 116 undef, l.getD 117 undef, l.getD 118 undef, l.getD 119 undef, l.getD 120 undef, l.getD 121 undef, l.getD 122 undef, l.getD 123 undef, l.getD 124 undef, l.getD 125 undef, l.getD 126 undef, l.getD 127 undef, l.getD 128 undef, l.getD 129 undef, l.getD 130 undef, l.getD 131 undef, l.getD 132 undef, l.getD 133 undef, l.getD 134 undef, l.getD 135 undef, l.getD 136 undef, l.getD 137 undef, l.getD 138 undef, l.getD 139 undef, l.getD 140 undef, l.getD 141 undef, l.getD 142 undef, l.getD 143 undef, l.getD 144 undef, l.getD 145 undef, l.getD 146 undef, l.getD 147 undef, l.getD 148 undef, l.getD 149 undef, l.getD 150 undef, l.getD 151 undef, l.getD 152 undef, l.getD 153 undef, l.getD 154 undef, l.getD 155 undef, l.getD 156 undef, l.getD 157 undef, l.getD 158 undef, l.getD 159 undef, l.getD 160 undef, l.getD 161 undef, l.getD 162 undef, l.getD 163 undef, l.getD 164 undef, l.getD 165 undef, l.getD 166 undef, l.getD 167 undef, l.getD 168 undef, l.getD 169 undef, l.getD 170 undef, l.getD 171 undef, l.getD 172 undef, l.getD 173 undef, l.getD 174 undef, l.getD 175 undef, l.getD 176 undef, l.getD 177 undef, l.getD 178 undef, l.getD 179 undef, l.getD 180 undef, l.getD 181 undef, l.getD 182 undef, l.getD 183 undef, l.getD 184 undef, l.getD 185 undef, l.getD 186 undef, l.getD 187 undef, l.getD 188 undef, l.getD 189 undef, l.getD 190 undef, l.getD 191 undef, l.getD 192 undef, l.getD 193 undef, l.getD 194 undef, l.getD 195 undef, l.getD 196 undef, l.getD 197 undef, l.getD 198 undef, l.getD 199 undef, l.getD 200 undef, l.getD 201 undef, l.getD 202 undef, l.getD 203 undef, l.getD 204 undef, l.getD 205 undef, l.getD 206 undef, l.getD 207 undef, l.getD 208 undef, l.getD 209 undef, l.getD 210 undef, l.getD 211 undef, l.getD 212 undef, l.getD 213 undef, l.getD 214 undef, l.getD 215 undef, l.getD 216 undef, l.getD 217 undef, l.getD 218 undef, l.getD 219 undef, l.getD 220 undef, l.getD 221 undef, l.getD 222 undef, l.getD 223 undef, l.getD 224 undef, l.getD 225 undef, l.getD 226 undef, l.getD 227 undef, l.getD 228 undef, l.getD 229 undef, l.getD 230 undef, l.getD 231 undef, l.getD 232 undef, l.getD 233 undef, l.getD 234 undef, l.getD 235 undef, l.getD 236 undef, l.getD 237 undef, l.getD 238 undef, l.getD 239 undef, l.getD 240 undef, l.getD 241 undef, l.getD 242 undef, l.getD 243 undef, l.getD 244 undef, l.getD 245 undef, l.getD 246 undef, l.getD 247 undef, l.getD 248 undef, l.getD 249 undef, l.getD 250 undef, l.getD 251 undef, l.getD 252 undef, l.getD 253 undef, l.getD 254 undef, l.getD 255 undef, l.getD 256 undef, l.getD 257 undef, l.getD 258 undef, l.getD 259 undef, l.getD 260 undef, l.getD 261 undef, l.getD 262 undef, l.getD 263 undef, l.getD 264 undef, l.getD 265 undef, l.getD 266 undef, l.getD 267 undef, l.getD 268 undef, l.getD 269 undef, l.getD 270 undef, l.getD 271 undef, l.getD 272 undef, l.getD 273 undef, l.getD 274 undef, l.getD 275 undef, l.getD 276 undef, l.getD 277 undef, l.getD 278 undef, l.getD 279 undef, l.getD 280 undef, l.getD 281 undef, l.getD 282 undef, l.getD 283 undef, l.getD 284 undef, l.getD 285 undef, l.getD 286 undef, l.getD 287 undef, l.getD 288 undef, l.getD 289 undef, l.getD 290 undef, l.getD 291 undef, l.getD 292 undef, l.getD 293 undef, l.getD 294 undef, l.getD 295 undef, l.getD 296 undef, l.getD 297 undef, l.getD 298 undef, l.getD 299 undef, l.getD 300 undef, l.getD 301 undef, l.getD 302 undef, l.getD 303 undef, l.getD 304 undef, l.getD 305 undef, l.getD 306 undef, l.getD 307 undef, l.getD 308 undef, l.getD 309 undef, l.getD 310 undef, l.getD 311 undef, l.getD 312 undef, l.getD 313 undef, l.getD 314 undef, l.getD 315 undef, l.getD 316 undef, l.getD 317 undef, l.getD 318 undef, l.getD 319 undef, l.getD 320 undef, l.getD 321 undef, l.getD 322 undef, l.getD 323 undef, l.getD 324 undef, l.getD 325 undef, l.getD 326 undef, l.getD 327 undef, l.getD 328 undef, l.getD 329 undef, l.getD 330 undef, l.getD 331 undef, l.getD 332 undef, l.getD 333 undef, l.getD 334 undef, l.getD 335 undef, l.getD 336 undef, l.getD 337 undef, l.getD 338 undef, l.getD 339 undef, l.getD 340 undef, l.getD 341 undef, l.getD 342 undef, l.getD 343 undef, l.getD 344 undef, l.getD 345 undef, l.getD 346 undef, l.getD 347 undef, l.getD 348 undef, l.getD 349 undef, l.getD 350 undef, l.getD 351 undef, l.getD 352 undef, l.getD 353 undef, l.getD 354 undef, l.getD 355 undef, l.getD 356 undef, l.getD 357 undef, l.getD 358 undef, l.getD 359 undef, l.getD 360 undef, l.getD 361 undef, l.getD 362 undef, l.getD 363 undef, l.getD 364 undef, l.getD 365 undef, l.getD 366 undef, l.getD 367 undef, l.getD 368 undef, l.getD 369 undef, l.getD 370 undef, l.getD 371 undef, l.getD 372 undef, l.getD 373 undef, l.getD 374 undef, l.getD 375 undef, l.getD 376 undef, l.getD 377 undef, l.getD 378 undef, l.getD 379 undef, l.getD 380 undef, l.getD 381 undef, l.getD 382 undef, l.getD 383 undef, l.getD 384 undef, l.getD 385 undef, l.getD 386 undef, l.getD 387 undef, l.getD 388 undef, l.getD 389 undef, l.getD 390 undef, l.getD 391 undef, l.getD 392 undef, l.getD 393 undef, l.getD 394 undef, l.getD 395 undef, l.getD 396 undef, l.getD 397 undef, l.getD 398 undef, l.getD 399 undef, l.getD 400 undef, l.getD 401 undef, l.getD 402 undef, l.getD 403 undef, l.getD 404 undef, l.getD 405 undef, l.getD 406 undef, l.getD 407 undef, l.getD 408 undef, l.getD 409 undef, l.getD 410 undef, l.getD 411 undef, l.getD 412 undef, l.getD 413 undef, l.getD 414 undef, l.getD 415 undef, l.getD 416 undef, l.getD 417 undef, l.getD 418 undef, l.getD 419 undef] := by
    conv => lhs; rw [list_range hl]
    rfl
  show Act.mk ⟨l⟩ [] = _
  conv => lhs; rw [h1]
  simp only [Array.getD_eq_getD_getElem?, List.getElem?_toArray, List.getD]

theorem modify_push {α : Type} (l : Array α) (x : α) (f : α → α) : (l.push x).modify l.size f = l.push (f x) := by
  apply Array.ext'
  simp [Array.toList_modify, List.modify_eq_take_drop]
theorem low_set (w : World) (c : Array Value) (ty : TypeId) (q k : Nat) (v : Value) : ((w.alloc (.cells c ty)).drewN q).setCell ⟨w.heap.size, k, none⟩ v = (w.alloc (.cells (c.setIfInBounds k v) ty)).drewN q := by
  have h := modify_push w.heap (.cells c ty) (fun x => match x with
    | .cells c elem frozen => .cells (if (none : Option (Nat × List Nat)).isSome then c else c.setIfInBounds k v) elem frozen
    | o => o)
  show World.mk _ _ _ _ _ = World.mk _ _ _ _ _
  congr 1

theorem AddAt.drewN {w0 w : World} {T0 t : HT} {s0 s : List Tok} {n np : Nat} {full pth : ByteArray} (h : AddAt w0 T0 s0 n full pth t s np w) (q : Nat) : AddAt w0 T0 s0 n full pth t s np (w.drewN q) :=
  h.like ⟨Kin.refl t, h.rep.same (fun _ _ => rfl), h.wf, List.Perm.refl _, (Kept.refl _ w).drewN q, fun _ hx => .inl hx⟩ (fun _ => ⟨rfl, Nat.le_refl _⟩)

theorem AddAt.setPr {w0 w : World} {T0 t : HT} {s0 s : List Tok} {n np : Nat} {full pth : ByteArray} (h : AddAt w0 T0 s0 n full pth t s np w) (v : Int) : AddAt w0 T0 s0 n full pth (t.setPr v) s np (w.setCell ⟨t.b, 4, none⟩ (.int .u32 v)) :=
  h.like ⟨⟨setPr_b t v, setPr_key t v, fun e => by rw [setPr_tag]; exact e, fun _ => setPr_tag t v⟩, h.rep.setPr v, setPr_wf t v h.wf, by rw [setPr_R], (Kept.refl _ w).setCell (.inl (mem_blocks_self t)) _, fun x hx => by rw [setPr_blocks] at hx; exact .inl hx⟩
    (fun _ => by cases t; exact ⟨rfl, Nat.le_refl _⟩)

/-- The loop's own number: what is left of the path, twice, and one more ahead of the node that stands above all that is left. -/
def rk (pth : ByteArray) (tag : Tag) : Nat := 2 * pth.size + if tag = .ch then 0 else 1

theorem Tr.Rep.kidlen {w : World} {tag : Tag} {b : Nat} {d : Dec} {p : ByteArray} {h : Option Nat} {kids : List HT} (hr : Rep w (.mk tag b d p h kids)) : ∃ a c, w.cell? ⟨b, 6, none⟩ = some (.slice a kids.length c) := by
  have h6 := hr.c6
  cases harr : d.arr with
  | none =>
    have hn := hr.node.2
    simp only [harr] at hn
    rw [harr] at h6
    exact ⟨none, 0, by rw [h6, hn]; rfl⟩
  | some q =>
    rw [harr] at h6
    exact ⟨_, _, h6⟩

/-- How far two texts go together. -/
structure Lcp (a b : ByteArray) (i : Nat) : Prop where
  la : i ≤ a.size
  lb : i ≤ b.size
  eq : ∀ j, j < i → a.data.toList[j]? = b.data.toList[j]?
  stop : i = a.size ∨ i = b.size ∨ a.data.toList[i]? ≠ b.data.toList[i]?

/-- The loop's state at node (b, tag, p, h, kids). -/
structure LoopAt (w0 : World) (T0 : HT) (s0 : List Tok) (n : Nat) (full pth : ByteArray) (tag : Tag) (b : Nat) (p : ByteArray) (h : Option Nat) (kids : List HT) (s : List Tok) (np : Nat) (v8 : Value) (a : Act) (w : World) : Prop where
  fr : Fr a (.pointer (some ⟨b, 0, none⟩)) (.string pth) (.iface 3 (.int .i64 (n : Int))) (.string full) (.int .u8 (np : Int)) v8
  ps : pth.size ≤ 2147483647
  n20 : np ≤ 20
  at_ : ∃ d, AddAt w0 T0 s0 n full pth (.mk tag b d p h kids) s np w

end Go.Proofs.Ytcobbbbnmepmfaa
