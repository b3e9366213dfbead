/- addRoute's round: a new child is laid: the walk. -/
import Derived.Test.YtcobbbbnmepmfaaRoNew
import Derived.Test.YtcobbbbnmepmfaaRoUpper
import Derived.Deep.QuietTactic
import Derived.BigQuiet
import Derived.ArgAppend
import Derived.Laws.NewBlocks
import Derived.BigRegion
import Derived.Deep.RegionHeld3
import Derived.KernelRfl
namespace Go.Proofs.Ytcobbbbnmepmfaa
open Go Go.RowKit Go.Lib Tr

noncomputable def roN : Code := thn (snd (fst roX5))
/-- the index -/
noncomputable def roN52 : Code := fst roN
/-- the node -/
noncomputable def roN53 : Code := fst (snd roN)
/-- the array -/
noncomputable def roN54 : Code := fst (snd (snd roN))

theorem string_one_drew (w : World) (u : UInt8) (g : Nat) (hg : g = w.heap.size) :
    (convert 69 9 (.slice (some ⟨g, 0, none⟩) 1 1)).run Try.prog (w.alloc (.cells #[.int .u8 (u.toNat : Int)] 5)).drew = .ok (.string ⟨#[u]⟩) (w.alloc (.cells #[.int .u8 (u.toNat : Int)] 5)).drew := by
  subst hg
  refine run_convert_bytes_back (w.alloc (.cells #[.int .u8 (u.toNat : Int)] 5)).drew _ _ _ ⟨w.heap.size, 0, none⟩ 1 [u] Try.underlying69 Try.underlying5 Try.underlying9 ?_
  intro j hj
  have hj0 : j = 0 := by simpa using hj
  subst hj0
  exact cell_of_row8 (alloc_at _ _) 0

set_option maxHeartbeats 16000000 in
set_option maxRecDepth 100000 in
theorem ro_n52 {w : World} {tag : Tag} {b : Nat} {d : Dec} {p : ByteArray} {h : Option Nat} {kids : List HT} {n np : Nat} {full pth' : ByteArray} {c : UInt8} (x3 x4 x5 x8 x9 x10 x11 x12 x13 x14 x16 x17 x18 x19 x20 x21 x22 x23 x24 x25 x26 x27 x28 x29 x30 x31 x32 x33 x34 x35 x36 x37 x38 x39 x40 x41 x42 x43 x44 x45 x46 x47 x48 x49 x50 x51 x52 x53 x54 x55 x56 x57 x58 x59 x60 x61 x62 x63 x64 x65 x66 x67 x68 x69 x70 x71 x72 x73 x74 x75 x76 x77 x78 x79 x80 x81 x82 x83 x84 x85 x86 x87 x88 x89 x90 x91 x92 x93 x94 x95 x96 x97 x98 x99 x100 x101 x102 x103 x104 x105 x106 x107 x108 x109 x110 x111 x112 x113 x114 x115 x116 x117 x118 x119 x120 x121 x122 x123 x124 x125 x126 x127 x128 x129 x130 x131 x132 x133 x134 x135 x136 x137 x138 x139 x140 x141 x142 x143 x144 x145 x146 x147 x148 x149 x150 x151 x152 x153 x154 x155 x156 x157 x158 x159 x160 x161 x162 x163 x164 x165 x166 x167 x168 x169 x170 x171 x172 x173 x174 x175 x176 x177 x178 x179 x180 x181 x182 x183 x184 x185 x186 x187 x188 x189 x190 x191 x192 x193 x194 x195 x196 x197 x198 x199 x200 x201 x202 x203 x204 x205 x206 x207 x208 x209 x210 x211 x212 x213 x214 x215 x216 x217 x218 x219 x220 x221 x222 x223 x224 x225 x226 x227 x228 x229 x230 x231 x232 x233 x234 x235 x236 x237 x238 x239 x240 x241 x242 x243 x244 x245 x246 x247 x248 x249 x250 x251 x252 x253 x254 x255 x256 x257 x258 x259 x260 x261 x262 x263 x264 x265 x266 x267 x268 x269 x270 x271 x272 x273 x274 x275 x276 x277 x278 x279 x280 x281 x282 x283 x284 x285 x286 x287 x288 x289 x290 x291 x292 x293 x294 x295 x296 x297 x298 x299 x300 x301 x302 x303 x304 x305 x306 x307 x308 x309 x310 x311 x312 x313 x314 x315 x316 x317 x318 x319 x320 x321 x322 x323 x324 x325 x326 x327 x328 x329 x330 x331 x332 x333 x334 x335 x336 x337 x338 x339 x340 x341 x342 x343 x344 x345 x346 x347 x348 x349 x350 x351 x352 x353 x354 x355 x356 x357 x358 x359 x360 x361 x362 x363 x364 x365 x366 x367 x368 x369 x370 x371 x372 x373 x374 x375 x376 x377 x378 x379 x380 x381 x382 x383 x384 x385 x386 x387 x388 x389 x390 x391 x392 x393 x394 x395 x396 x397 x398 x399 x400 x401 x402 x403 x404 x405 x406 x407 x408 x409 x410 x411 x412 x413 x414 x415 x416 x417 x418 x419 : Value) (HR : Hid (Rep w (.mk tag b d p h kids))) (hix : d.ix.size ≤ 256) {K : Act → World → Prop} {Q : Exit → Act → World → Prop} (hK : ∀ a' W, (∃ v8, Fr a' (.pointer (some ⟨b, 0, none⟩)) (.string pth') (.iface 3 (.int .i64 (n : Int))) (.string full) (.int .u8 (np : Int)) v8) → Rep W (.mk tag b { d with ix := d.ix ++ ⟨#[c]⟩ } p h kids) → Kept [b] w W → K a' W) :
    roN52.wp Try.prog (Exit.then K Q) ⟨#[.pointer (some ⟨b, 0, none⟩), .string pth', .iface 3 (.int .i64 (n : Int)), x3, x4, x5, .string full, .int .u8 (np : Int), x8, x9, x10, x11, x12, x13, x14, .int .u8 (c.toNat : Int), x16, x17, x18, x19, x20, x21, x22, x23, x24, x25, x26, x27, x28, x29, x30, x31, x32, x33, x34, x35, x36, x37, x38, x39, x40, x41, x42, x43, x44, x45, x46, x47, x48, x49, x50, x51, x52, x53, x54, x55, x56, x57, x58, x59, x60, x61, x62, x63, x64, x65, x66, x67, x68, x69, x70, x71, x72, x73, x74, x75, x76, x77, x78, x79, x80, x81, x82, x83, x84, x85, x86, x87, x88, x89, x90, x91, x92, x93, x94, x95, x96, x97, x98, x99, x100, x101, x102, x103, x104, x105, x106, x107, x108, x109, x110, x111, x112, x113, x114, x115, x116, x117, x118, x119, x120, x121, x122, x123, x124, x125, x126, x127, x128, x129, x130, x131, x132, x133, x134, x135, x136, x137, x138, x139, x140, x141, x142, x143, x144, x145, x146, x147, x148, x149, x150, x151, x152, x153, x154, x155, x156, x157, x158, x159, x160, x161, x162, x163, x164, x165, x166, x167, x168, x169, x170, x171, x172, x173, x174, x175, x176, x177, x178, x179, x180, x181, x182, x183, x184, x185, x186, x187, x188, x189, x190, x191, x192, x193, x194, x195, x196, x197, x198, x199, x200, x201, x202, x203, x204, x205, x206, x207, x208, x209, x210, x211, x212, x213, x214, x215, x216, x217, x218, x219, x220, x221, x222, x223, x224, x225, x226, x227, x228, x229, x230, x231, x232, x233, x234, x235, x236, x237, x238, x239, x240, x241, x242, x243, x244, x245, x246, x247, x248, x249, x250, x251, x252, x253, x254, x255, x256, x257, x258, x259, x260, x261, x262, x263, x264, x265, x266, x267, x268, x269, x270, x271, x272, x273, x274, x275, x276, x277, x278, x279, x280, x281, x282, x283, x284, x285, x286, x287, x288, x289, x290, x291, x292, x293, x294, x295, x296, x297, x298, x299, x300, x301, x302, x303, x304, x305, x306, x307, x308, x309, x310, x311, x312, x313, x314, x315, x316, x317, x318, x319, x320, x321, x322, x323, x324, x325, x326, x327, x328, x329, x330, x331, x332, x333, x334, x335, x336, x337, x338, x339, x340, x341, x342, x343, x344, x345, x346, x347, x348, x349, x350, x351, x352, x353, x354, x355, x356, x357, x358, x359, x360, x361, x362, x363, x364, x365, x366, x367, x368, x369, x370, x371, x372, x373, x374, x375, x376, x377, x378, x379, x380, x381, x382, x383, x384, x385, x386, x387, x388, x389, x390, x391, x392, x393, x394, x395, x396, x397, x398, x399, x400, x401, x402, x403, x404, x405, x406, x407, x408, x409, x410, x411, x412, x413, x414, x415, x416, x417, x418, x419], []⟩ w := by
  have kc0 := fun (w : World) (u : UInt8) (g : Nat) (hg : g = w.heap.size) => string_one w u g hg
  have kc1 := fun (w : World) (u : UInt8) (g : Nat) (hg : g = w.heap.size) => string_one_drew w u g hg
  conv => arg 2; whnf
  obtain ⟨ix, hixe⟩ : ∃ ix, d.ix = ix := ⟨_, rfl⟩
  have hc5 : w.cell? ⟨b, 5, none⟩ = some (.string ix) := by rw [← hixe]; exact HR.out.c5
  have hf5 : w.frozen? ⟨b, 5, none⟩ = false := HR.out.free 5
  have hblt : b < w.heap.size := HR.out.blt
  have hix2 : ix.size ≤ 256 := by rw [← hixe]; exact hix
  have HIX := Lib.hid hixe
  have hone : (⟨#[c]⟩ : ByteArray).size = 1 := rfl
  clear hix hixe
  have HFIN : Hid (∀ (ob : Obj) (q : Nat), Rep (((w.setCell ⟨b, 5, none⟩ (.string (ix ++ ⟨#[c]⟩))).alloc ob).drewN q) (.mk tag b { d with ix := d.ix ++ ⟨#[c]⟩ } p h kids) ∧ Kept [b] w (((w.setCell ⟨b, 5, none⟩ (.string (ix ++ ⟨#[c]⟩))).alloc ob).drewN q)) := by
    intro ob q
    have h1 := HR.out.setIx (ix ++ ⟨#[c]⟩)
    refine ⟨?_, (((Kept.refl [b] w).setCell (.inl (by simp)) _).alloc _).drewN q⟩
    rw [HIX.out]
    exact h1.same fun x hx => alloc_lt _ _ (h1.lt x hx)
  go_wp2
  go_region
  show K _ _
  refine hK _ _ ⟨x8, ?_⟩ (HFIN.out _ 1).1 (HFIN.out _ 1).2
  exact ⟨rfl, rfl, rfl, rfl, rfl, rfl, rfl, rfl⟩

set_option maxHeartbeats 16000000 in
set_option maxRecDepth 100000 in
theorem ro_n53 {w : World} {b n np : Nat} {full pth' : ByteArray} (x3 x4 x5 x8 x9 x10 x11 x12 x13 x14 x15 x16 x17 x18 x19 x20 x21 x22 x23 x24 x25 x26 x27 x28 x29 x30 x31 x32 x33 x34 x35 x36 x37 x38 x39 x40 x41 x42 x43 x44 x45 x46 x47 x48 x49 x50 x51 x52 x53 x54 x55 x56 x57 x58 x59 x60 x61 x62 x63 x64 x65 x66 x67 x68 x69 x70 x71 x72 x73 x74 x75 x76 x77 x78 x79 x80 x81 x82 x83 x84 x85 x86 x87 x88 x89 x90 x91 x92 x93 x94 x95 x96 x97 x98 x99 x100 x101 x102 x103 x104 x105 x106 x107 x108 x109 x110 x111 x112 x113 x114 x115 x116 x117 x118 x119 x120 x121 x122 x123 x124 x125 x126 x127 x128 x129 x130 x131 x132 x133 x134 x135 x136 x137 x138 x139 x140 x141 x142 x143 x144 x145 x146 x147 x148 x149 x150 x151 x152 x153 x154 x155 x156 x157 x158 x159 x160 x161 x162 x163 x164 x165 x166 x167 x168 x169 x170 x171 x172 x173 x174 x175 x176 x177 x178 x179 x180 x181 x182 x183 x184 x185 x186 x187 x188 x189 x190 x191 x192 x193 x194 x195 x196 x197 x198 x199 x200 x201 x202 x203 x204 x205 x206 x207 x208 x209 x210 x211 x212 x213 x214 x215 x216 x217 x218 x219 x220 x221 x222 x223 x224 x225 x226 x227 x228 x229 x230 x231 x232 x233 x234 x235 x236 x237 x238 x239 x240 x241 x242 x243 x244 x245 x246 x247 x248 x249 x250 x251 x252 x253 x254 x255 x256 x257 x258 x259 x260 x261 x262 x263 x264 x265 x266 x267 x268 x269 x270 x271 x272 x273 x274 x275 x276 x277 x278 x279 x280 x281 x282 x283 x284 x285 x286 x287 x288 x289 x290 x291 x292 x293 x294 x295 x296 x297 x298 x299 x300 x301 x302 x303 x304 x305 x306 x307 x308 x309 x310 x311 x312 x313 x314 x315 x316 x317 x318 x319 x320 x321 x322 x323 x324 x325 x326 x327 x328 x329 x330 x331 x332 x333 x334 x335 x336 x337 x338 x339 x340 x341 x342 x343 x344 x345 x346 x347 x348 x349 x350 x351 x352 x353 x354 x355 x356 x357 x358 x359 x360 x361 x362 x363 x364 x365 x366 x367 x368 x369 x370 x371 x372 x373 x374 x375 x376 x377 x378 x379 x380 x381 x382 x383 x384 x385 x386 x387 x388 x389 x390 x391 x392 x393 x394 x395 x396 x397 x398 x399 x400 x401 x402 x403 x404 x405 x406 x407 x408 x409 x410 x411 x412 x413 x414 x415 x416 x417 x418 x419 : Value) {K : Act → World → Prop} {Q : Exit → Act → World → Prop} (hK : ∀ a', (Fr a' (.pointer (some ⟨b, 0, none⟩)) (.string pth') (.iface 3 (.int .i64 (n : Int))) (.string full) (.int .u8 (np : Int)) x8) → a'.tmps.getD 17 undef = .pointer (some ⟨w.heap.size, 0, none⟩) → K a' (w.alloc (.cells (vals .st ⟨0, np, 0, ⟨#[]⟩, none⟩ ⟨#[]⟩ none 0) 65))) :
    roN53.wp Try.prog (Exit.then K Q) ⟨#[.pointer (some ⟨b, 0, none⟩), .string pth', .iface 3 (.int .i64 (n : Int)), x3, x4, x5, .string full, .int .u8 (np : Int), x8, x9, x10, x11, x12, x13, x14, x15, x16, x17, x18, x19, x20, x21, x22, x23, x24, x25, x26, x27, x28, x29, x30, x31, x32, x33, x34, x35, x36, x37, x38, x39, x40, x41, x42, x43, x44, x45, x46, x47, x48, x49, x50, x51, x52, x53, x54, x55, x56, x57, x58, x59, x60, x61, x62, x63, x64, x65, x66, x67, x68, x69, x70, x71, x72, x73, x74, x75, x76, x77, x78, x79, x80, x81, x82, x83, x84, x85, x86, x87, x88, x89, x90, x91, x92, x93, x94, x95, x96, x97, x98, x99, x100, x101, x102, x103, x104, x105, x106, x107, x108, x109, x110, x111, x112, x113, x114, x115, x116, x117, x118, x119, x120, x121, x122, x123, x124, x125, x126, x127, x128, x129, x130, x131, x132, x133, x134, x135, x136, x137, x138, x139, x140, x141, x142, x143, x144, x145, x146, x147, x148, x149, x150, x151, x152, x153, x154, x155, x156, x157, x158, x159, x160, x161, x162, x163, x164, x165, x166, x167, x168, x169, x170, x171, x172, x173, x174, x175, x176, x177, x178, x179, x180, x181, x182, x183, x184, x185, x186, x187, x188, x189, x190, x191, x192, x193, x194, x195, x196, x197, x198, x199, x200, x201, x202, x203, x204, x205, x206, x207, x208, x209, x210, x211, x212, x213, x214, x215, x216, x217, x218, x219, x220, x221, x222, x223, x224, x225, x226, x227, x228, x229, x230, x231, x232, x233, x234, x235, x236, x237, x238, x239, x240, x241, x242, x243, x244, x245, x246, x247, x248, x249, x250, x251, x252, x253, x254, x255, x256, x257, x258, x259, x260, x261, x262, x263, x264, x265, x266, x267, x268, x269, x270, x271, x272, x273, x274, x275, x276, x277, x278, x279, x280, x281, x282, x283, x284, x285, x286, x287, x288, x289, x290, x291, x292, x293, x294, x295, x296, x297, x298, x299, x300, x301, x302, x303, x304, x305, x306, x307, x308, x309, x310, x311, x312, x313, x314, x315, x316, x317, x318, x319, x320, x321, x322, x323, x324, x325, x326, x327, x328, x329, x330, x331, x332, x333, x334, x335, x336, x337, x338, x339, x340, x341, x342, x343, x344, x345, x346, x347, x348, x349, x350, x351, x352, x353, x354, x355, x356, x357, x358, x359, x360, x361, x362, x363, x364, x365, x366, x367, x368, x369, x370, x371, x372, x373, x374, x375, x376, x377, x378, x379, x380, x381, x382, x383, x384, x385, x386, x387, x388, x389, x390, x391, x392, x393, x394, x395, x396, x397, x398, x399, x400, x401, x402, x403, x404, x405, x406, x407, x408, x409, x410, x411, x412, x413, x414, x415, x416, x417, x418, x419], []⟩ w := by
  conv => arg 2; whnf
  go_wp2
  refine hK _ ?_ rfl
  exact ⟨rfl, rfl, rfl, rfl, rfl, rfl, rfl, rfl⟩

set_option maxHeartbeats 16000000 in
set_option maxRecDepth 100000 in
theorem ro_n54 {w : World} {tag : Tag} {b : Nat} {d : Dec} {p : ByteArray} {h : Option Nat} {kids : List HT} {n np : Nat} {full pth' : ByteArray} {rb : Nat} (x3 x4 x5 x8 x9 x10 x11 x12 x13 x14 x15 x16 x18 x19 x20 x21 x22 x23 x24 x25 x26 x27 x28 x29 x30 x31 x32 x33 x34 x35 x36 x37 x38 x39 x40 x41 x42 x43 x44 x45 x46 x47 x48 x49 x50 x51 x52 x53 x54 x55 x56 x57 x58 x59 x60 x61 x62 x63 x64 x65 x66 x67 x68 x69 x70 x71 x72 x73 x74 x75 x76 x77 x78 x79 x80 x81 x82 x83 x84 x85 x86 x87 x88 x89 x90 x91 x92 x93 x94 x95 x96 x97 x98 x99 x100 x101 x102 x103 x104 x105 x106 x107 x108 x109 x110 x111 x112 x113 x114 x115 x116 x117 x118 x119 x120 x121 x122 x123 x124 x125 x126 x127 x128 x129 x130 x131 x132 x133 x134 x135 x136 x137 x138 x139 x140 x141 x142 x143 x144 x145 x146 x147 x148 x149 x150 x151 x152 x153 x154 x155 x156 x157 x158 x159 x160 x161 x162 x163 x164 x165 x166 x167 x168 x169 x170 x171 x172 x173 x174 x175 x176 x177 x178 x179 x180 x181 x182 x183 x184 x185 x186 x187 x188 x189 x190 x191 x192 x193 x194 x195 x196 x197 x198 x199 x200 x201 x202 x203 x204 x205 x206 x207 x208 x209 x210 x211 x212 x213 x214 x215 x216 x217 x218 x219 x220 x221 x222 x223 x224 x225 x226 x227 x228 x229 x230 x231 x232 x233 x234 x235 x236 x237 x238 x239 x240 x241 x242 x243 x244 x245 x246 x247 x248 x249 x250 x251 x252 x253 x254 x255 x256 x257 x258 x259 x260 x261 x262 x263 x264 x265 x266 x267 x268 x269 x270 x271 x272 x273 x274 x275 x276 x277 x278 x279 x280 x281 x282 x283 x284 x285 x286 x287 x288 x289 x290 x291 x292 x293 x294 x295 x296 x297 x298 x299 x300 x301 x302 x303 x304 x305 x306 x307 x308 x309 x310 x311 x312 x313 x314 x315 x316 x317 x318 x319 x320 x321 x322 x323 x324 x325 x326 x327 x328 x329 x330 x331 x332 x333 x334 x335 x336 x337 x338 x339 x340 x341 x342 x343 x344 x345 x346 x347 x348 x349 x350 x351 x352 x353 x354 x355 x356 x357 x358 x359 x360 x361 x362 x363 x364 x365 x366 x367 x368 x369 x370 x371 x372 x373 x374 x375 x376 x377 x378 x379 x380 x381 x382 x383 x384 x385 x386 x387 x388 x389 x390 x391 x392 x393 x394 x395 x396 x397 x398 x399 x400 x401 x402 x403 x404 x405 x406 x407 x408 x409 x410 x411 x412 x413 x414 x415 x416 x417 x418 x419 : Value) (HR : Hid (Rep w (.mk tag b d p h kids))) (hkl : kids.length ≤ 256) (HRB : Hid (rb ∉ blocks (.mk tag b d p h kids) ∧ rb < w.heap.size ∧ ∃ ty, w.heap[rb]? = some (.cells (vals .st ⟨0, np, 0, ⟨#[]⟩, none⟩ ⟨#[]⟩ none 0) ty (0, 0)))) {K : Act → World → Prop} {Q : Exit → Act → World → Prop} (hK : ∀ a' W d1, (Fr a' (.pointer (some ⟨b, 0, none⟩)) (.string pth') (.iface 3 (.int .i64 (n : Int))) (.string full) (.int .u8 (np : Int)) x8) → a'.tmps.getD 17 undef = .pointer (some ⟨rb, 0, none⟩) → d1 = { d with arr := d1.arr } → Rep W (.mk tag b d1 p h (kids ++ [.mk .st rb ⟨0, np, 0, ⟨#[]⟩, none⟩ ⟨#[]⟩ none []])) → Kept (blocks (.mk tag b d p h kids)) w W → (∀ x ∈ blocks (.mk tag b d1 p h (kids ++ [.mk .st rb ⟨0, np, 0, ⟨#[]⟩, none⟩ ⟨#[]⟩ none []])), x ∈ blocks (.mk tag b d p h kids) ∨ x = rb ∨ w.heap.size ≤ x) → K a' W) :
    roN54.wp Try.prog (Exit.then K Q) ⟨#[.pointer (some ⟨b, 0, none⟩), .string pth', .iface 3 (.int .i64 (n : Int)), x3, x4, x5, .string full, .int .u8 (np : Int), x8, x9, x10, x11, x12, x13, x14, x15, x16, .pointer (some ⟨rb, 0, none⟩), x18, x19, x20, x21, x22, x23, x24, x25, x26, x27, x28, x29, x30, x31, x32, x33, x34, x35, x36, x37, x38, x39, x40, x41, x42, x43, x44, x45, x46, x47, x48, x49, x50, x51, x52, x53, x54, x55, x56, x57, x58, x59, x60, x61, x62, x63, x64, x65, x66, x67, x68, x69, x70, x71, x72, x73, x74, x75, x76, x77, x78, x79, x80, x81, x82, x83, x84, x85, x86, x87, x88, x89, x90, x91, x92, x93, x94, x95, x96, x97, x98, x99, x100, x101, x102, x103, x104, x105, x106, x107, x108, x109, x110, x111, x112, x113, x114, x115, x116, x117, x118, x119, x120, x121, x122, x123, x124, x125, x126, x127, x128, x129, x130, x131, x132, x133, x134, x135, x136, x137, x138, x139, x140, x141, x142, x143, x144, x145, x146, x147, x148, x149, x150, x151, x152, x153, x154, x155, x156, x157, x158, x159, x160, x161, x162, x163, x164, x165, x166, x167, x168, x169, x170, x171, x172, x173, x174, x175, x176, x177, x178, x179, x180, x181, x182, x183, x184, x185, x186, x187, x188, x189, x190, x191, x192, x193, x194, x195, x196, x197, x198, x199, x200, x201, x202, x203, x204, x205, x206, x207, x208, x209, x210, x211, x212, x213, x214, x215, x216, x217, x218, x219, x220, x221, x222, x223, x224, x225, x226, x227, x228, x229, x230, x231, x232, x233, x234, x235, x236, x237, x238, x239, x240, x241, x242, x243, x244, x245, x246, x247, x248, x249, x250, x251, x252, x253, x254, x255, x256, x257, x258, x259, x260, x261, x262, x263, x264, x265, x266, x267, x268, x269, x270, x271, x272, x273, x274, x275, x276, x277, x278, x279, x280, x281, x282, x283, x284, x285, x286, x287, x288, x289, x290, x291, x292, x293, x294, x295, x296, x297, x298, x299, x300, x301, x302, x303, x304, x305, x306, x307, x308, x309, x310, x311, x312, x313, x314, x315, x316, x317, x318, x319, x320, x321, x322, x323, x324, x325, x326, x327, x328, x329, x330, x331, x332, x333, x334, x335, x336, x337, x338, x339, x340, x341, x342, x343, x344, x345, x346, x347, x348, x349, x350, x351, x352, x353, x354, x355, x356, x357, x358, x359, x360, x361, x362, x363, x364, x365, x366, x367, x368, x369, x370, x371, x372, x373, x374, x375, x376, x377, x378, x379, x380, x381, x382, x383, x384, x385, x386, x387, x388, x389, x390, x391, x392, x393, x394, x395, x396, x397, x398, x399, x400, x401, x402, x403, x404, x405, x406, x407, x408, x409, x410, x411, x412, x413, x414, x415, x416, x417, x418, x419], []⟩ w := by
  conv => arg 2; whnf
  have hinfo : (Try.prog.info? 76).map (fun i => (i.zero, i.size, i.bytes)) = some (some (.pointer none), 1, 8) := by kernel_rfl
  obtain ⟨i0, hi, hz0, hz1, hz2⟩ := info_parts hinfo
  have hf6 : w.frozen? ⟨b, 6, none⟩ = false := HR.out.free 6
  have hblt : b < w.heap.size := HR.out.blt
  obtain ⟨L, hL⟩ : ∃ L, kids.length = L := ⟨_, rfl⟩
  have hml : (512 : Nat) ≤ maxLen := by decide
  obtain ⟨N, hN⟩ : ∃ N, w.heap.size = N := ⟨_, rfl⟩
  have hl : L ≤ 256 := by omega
  obtain ⟨hrb1, hrb2, ty3, hrb3⟩ := HRB.out
  have hbn : rb ≠ b := fun e => hrb1 (by rw [e]; exact mem_blocks_self (.mk tag b d p h kids))
  obtain ⟨ty, hrow⟩ := HR.out.row
  have hgrow : Hid (∀ (v' : Value) (w' : World), w'.ownsRow (N + 1) 76 1 v' (L + 1) (kids.map ptr ++ [.pointer (some ⟨rb, 0, none⟩)]) → (w.alloc (.cells #[.pointer (some ⟨rb, 0, none⟩)] 76)).grownBy w' none →
      ∃ g cap, v' = .slice (some ⟨g, 0, none⟩) (L + 1) cap ∧ w'.cell? ⟨b, 6, none⟩ = w.cell? ⟨b, 6, none⟩ ∧ w'.frozen? ⟨b, 6, none⟩ = false ∧ ∃ d1 : Dec, d1 = { d with arr := d1.arr } ∧ Rep (w'.setCell ⟨b, 6, none⟩ v') (.mk tag b d1 p h (kids ++ [.mk .st rb ⟨0, np, 0, ⟨#[]⟩, none⟩ ⟨#[]⟩ none []])) ∧ Kept (blocks (.mk tag b d p h kids)) w (w'.setCell ⟨b, 6, none⟩ v') ∧
        ∀ x ∈ blocks (.mk tag b d1 p h (kids ++ [.mk .st rb ⟨0, np, 0, ⟨#[]⟩, none⟩ ⟨#[]⟩ none []])), x ∈ blocks (.mk tag b d p h kids) ∨ x = rb ∨ w.heap.size ≤ x) := by
    intro v' w' hown hgr
    obtain ⟨hlen, h0 | ⟨g, cap, cur, rfl, hgN, hgc, hc1, hc2, hc3, hc4⟩⟩ := hown
    · omega
    have hold : ∀ x, x < N → w'.heap[x]? = w.heap[x]? := by
      intro x hx
      rw [hgr.block x (by rw [alloc_size]; omega) (by simp)]
      exact alloc_lt _ _ (by omega)
    have hcl : cur.toList.length = cur.size := Array.length_toList
    have hcur : cur = ((kids.map ptr ++ [Value.pointer (some ⟨rb, 0, none⟩)]) ++ cur.toList.drop (L + 1)).toArray := by
      rw [← hc4, Nat.mul_one, List.take_append_drop]
    refine ⟨g, cap, rfl, ?_, ?_, { d with arr := some (g, cur.toList.drop (L + 1)) }, rfl, ?_, ?_, ?_⟩
    · show World.cell? _ _ = World.cell? _ _
      unfold World.cell?
      rw [hold b (by omega)]
    · exact free_of_row8 ((hold b (by omega)).trans hrow) 6
    · refine Rep.snoc (g2 := g) (sp2 := cur.toList.drop (L + 1)) HR.out ⟨ty, ?_⟩ ⟨ty3, ?_⟩ rfl rfl ?_ ?_ ?_ hrb1 (by omega) (by omega) ?_
      · rw [row_set ((hold b (by omega)).trans hrow)]
        have hcp : cap = (kids.length + 1) + (cur.toList.drop (L + 1)).length := by rw [List.length_drop, hcl]; omega
        rw [hcp, hL]
        rfl
      · rw [Below.heap_setCell _ _ _ _ (by simpa using hbn)]
        exact (hold rb (by omega)).trans hrb3
      · rw [Below.heap_setCell _ _ _ _ (by show g ≠ b; omega), hgc]
        congr 2
      · rw [List.length_drop, hcl]; omega
      · intro x hx
        have hxb : x ∈ blocks (.mk tag b d p h kids) := by rw [blocks_mk]; simp [hx]
        have hxN : x < N := by rw [← hN]; exact HR.out.lt x hxb
        have hxne : x ≠ b := by
          have hnd := HR.out.nd
          rw [blocks_mk] at hnd
          intro e
          subst e
          exact (List.nodup_append.1 hnd).2.2 x (by unfold own; simp only; split <;> simp) x hx rfl
        rw [Below.heap_setCell _ _ _ _ hxne]
        exact hold x hxN
      · intro hx
        have hxb : g ∈ blocks (.mk tag b d p h kids) := by rw [blocks_mk]; simp [hx]
        have := HR.out.lt g hxb
        omega
    · refine Kept.setCell (a := w) (b := w') (p := ⟨b, 6, none⟩) ⟨hgr.os, hgr.tape, hgr.output, ?_, ?_⟩ (.inl (mem_blocks_self (.mk tag b d p h kids))) _
      · have := hgr.size
        rw [alloc_size] at this
        omega
      · intro x hx _
        exact hold x (by omega)
    · intro x hx
      rw [blocks_mk, blocksL_append, blocksL_cons, blocksL_nil, blocks_leaf rfl] at hx
      have ho : own (.mk tag b { d with arr := some (g, cur.toList.drop (L + 1)) } p h (kids ++ [.mk .st rb ⟨0, np, 0, ⟨#[]⟩, none⟩ ⟨#[]⟩ none []])) = [b, g] := by simp [own]
      rw [ho] at hx
      have hx' : x = b ∨ x = g ∨ x ∈ blocksL kids ∨ x = rb := by simpa using hx
      rcases hx' with rfl | rfl | hx' | rfl
      · exact .inl (mem_blocks_self (.mk tag x d p h kids))
      · right; right; omega
      · exact .inl (by rw [blocks_mk]; simp [hx'])
      · exact .inr (.inl rfl)
  have hcells : d.arr = none ∨ (∃ g, d.arr = some (g, [])) ∨ ∃ g x sp, d.arr = some (g, x :: sp) := by
    rcases hda : d.arr with _ | ⟨g, _ | ⟨x, sp⟩⟩
    · exact .inl rfl
    · exact .inr (.inl ⟨g, rfl⟩)
    · exact .inr (.inr ⟨g, x, sp, rfl⟩)
  have hc6 := HR.out.c6
  have HNOD := HR.out.node.2
  have HL := Lib.hid hL
  have HN := Lib.hid hN
  rcases hcells with hda | ⟨g, hda⟩ | ⟨g, x, sp, hda⟩
  · have hk0 : kids = [] := by simp only [hda] at HNOD; exact HNOD
    obtain rfl : L = 0 := by rw [← hL, hk0]; rfl
    rw [hda, hL] at hc6
    have hc6' : w.cell? ⟨b, 6, none⟩ = some (.slice none 0 0) := hc6
    have hnone : (none : Option Addr) = none → (0 : Nat) = 0 ∧ (0 : Nat) = 0 := fun _ => ⟨rfl, rfl⟩
    have hlo : (kids.map ptr).length = 0 * 1 := by rw [List.length_map, hL]
    have holds : ∀ a : Addr, (none : Option Addr) = some a → ∀ j u, (kids.map ptr)[j]? = some u → (w.alloc (.cells #[.pointer (some ⟨rb, 0, none⟩)] 76)).cell? (a.add j) = some u := fun a e => by cases e
    obtain ⟨olds, hol⟩ : ∃ olds, olds = kids.map ptr := ⟨_, rfl⟩
    rw [← hol] at hgrow hlo holds
    have HLO := Lib.hid hlo
    have HOLDS := Lib.hid holds
    have HNONE := Lib.hid hnone
    clear hc6 hrow hrb3 hrb1 HNOD hol hL hN hlo holds hnone
    go_wp2_with (at_builtin; refine wpList_append_grows _ rfl _ _ 62 rfl 76 i0 (.pointer none) 1 8 Try.underlying62 hi hz0 hz1 hz2 rfl (by decide) none 0 0 olds rfl HNONE.out HLO.out HOLDS.out ⟨w.heap.size, 0, none⟩ 1 1 [.pointer (some ⟨rb, 0, none⟩)] rfl rfl ?newcell ?newone (by omega) (by omega) (by omega) ?onward)
    try (case newcell => (rintro j u hj; (have hj0 : j = 0 := by (have := (List.getElem?_eq_some_iff.1 hj).1); simpa using this); subst hj0; rw [Addr.add_lit, ← Option.some.inj hj]; exact cell_of_row8 (alloc_at _ _) 0))
    case newone =>
      first
        | rfl
        | (intro u hu; rw [List.mem_singleton.1 hu]; rfl)
    case onward =>
      intro v' w' hown hgr
      rw [HN.out] at hown
      obtain ⟨g2, cap2, rfl, hc6n, hf6n, d1, e1, h1, h2, h3⟩ := hgrow.out v' w' hown hgr
      rw [hc6'] at hc6n
      have HE := Lib.hid e1
      have H1 := Lib.hid h1
      have H2 := Lib.hid h2
      have H3 := Lib.hid h3
      clear hown hgr e1 h1 h2 h3
      go_wp2
      refine hK _ _ d1 ?_ rfl HE.out H1.out H2.out H3.out
      exact ⟨rfl, rfl, rfl, rfl, rfl, rfl, rfl, rfl⟩
  · rw [hda, hL] at hc6
    have hc6' : w.cell? ⟨b, 6, none⟩ = some (.slice (some ⟨g, 0, none⟩) L L) := hc6
    simp only [hda] at HNOD
    have hgl : g < w.heap.size := (Array.getElem?_eq_some_iff.1 HNOD.1).1
    have hnone : (some ⟨g, 0, none⟩ : Option Addr) = none → L = 0 ∧ L = 0 := fun e => by cases e
    have hlo : (kids.map ptr).length = L * 1 := by rw [List.length_map, hL, Nat.mul_one]
    have holds : ∀ a : Addr, (some ⟨g, 0, none⟩ : Option Addr) = some a → ∀ j u, (kids.map ptr)[j]? = some u → (w.alloc (.cells #[.pointer (some ⟨rb, 0, none⟩)] 76)).cell? (a.add j) = some u := by
      rintro a e j u hj
      obtain rfl := Option.some.inj e
      rw [Addr.add_lit, World.cell?_alloc_lt w _ _ (by exact hgl), Nat.zero_add, cell_of_row8 HNOD.1]
      rw [List.append_nil, List.getElem?_toArray]
      exact hj
    obtain ⟨olds, hol⟩ : ∃ olds, olds = kids.map ptr := ⟨_, rfl⟩
    rw [← hol] at hgrow hlo holds
    have HLO := Lib.hid hlo
    have HOLDS := Lib.hid holds
    have HNONE := Lib.hid hnone
    clear hc6 hrow hrb3 hrb1 HNOD hol hL hN hlo holds hnone
    go_wp2_with (at_builtin; refine wpList_append_grows _ rfl _ _ 62 rfl 76 i0 (.pointer none) 1 8 Try.underlying62 hi hz0 hz1 hz2 rfl (by decide) (some ⟨g, 0, none⟩) L L olds rfl HNONE.out HLO.out HOLDS.out ⟨w.heap.size, 0, none⟩ 1 1 [.pointer (some ⟨rb, 0, none⟩)] rfl rfl ?newcell ?newone (by omega) (by omega) (by omega) ?onward)
    try (case newcell => (rintro j u hj; (have hj0 : j = 0 := by (have := (List.getElem?_eq_some_iff.1 hj).1); simpa using this); subst hj0; rw [Addr.add_lit, ← Option.some.inj hj]; exact cell_of_row8 (alloc_at _ _) 0))
    case newone =>
      first
        | rfl
        | (intro u hu; rw [List.mem_singleton.1 hu]; rfl)
    case onward =>
      intro v' w' hown hgr
      rw [HN.out] at hown
      obtain ⟨g2, cap2, rfl, hc6n, hf6n, d1, e1, h1, h2, h3⟩ := hgrow.out v' w' hown hgr
      rw [hc6'] at hc6n
      have HE := Lib.hid e1
      have H1 := Lib.hid h1
      have H2 := Lib.hid h2
      have H3 := Lib.hid h3
      clear hown hgr e1 h1 h2 h3
      go_wp2
      refine hK _ _ d1 ?_ rfl HE.out H1.out H2.out H3.out
      exact ⟨rfl, rfl, rfl, rfl, rfl, rfl, rfl, rfl⟩
  · rw [hda, hL] at hc6
    have hc6' : w.cell? ⟨b, 6, none⟩ = some (.slice (some ⟨g, 0, none⟩) L (L + (sp.length + 1))) := hc6
    simp only [hda] at HNOD
    obtain ⟨hgrow2, hglen⟩ := HNOD
    have hHG := Lib.hid hgrow2
    have hgl : g < w.heap.size := (Array.getElem?_eq_some_iff.1 hgrow2).1
    have hgb : b ≠ g := Ne.symm (HR.out.arr hda).2.2
    have hsp2 : L + (sp.length + 1) ≤ maxLen := by rw [← hL]; simpa using hglen
    have tml : maxLen ≤ 9223372036854775807 := by decide
    have hcg : w.cell? ⟨g, L, none⟩ = some x := by
      rw [cell_of_row8 hgrow2]
      simp [hL]
    have hfg : w.frozen? ⟨g, L, none⟩ = false := free_of_row8 hgrow2 L
    have HROOM : Hid (∀ ob : Obj, ∃ d1 : Dec, d1 = { d with arr := d1.arr } ∧ Rep (((w.setCell ⟨g, L, none⟩ (.pointer (some ⟨rb, 0, none⟩))).setCell ⟨b, 6, none⟩ (.slice (some ⟨g, 0, none⟩) (L + 1) (L + (sp.length + 1)))).alloc ob) (.mk tag b d1 p h (kids ++ [.mk .st rb ⟨0, np, 0, ⟨#[]⟩, none⟩ ⟨#[]⟩ none []])) ∧
        Kept (blocks (.mk tag b d p h kids)) w (((w.setCell ⟨g, L, none⟩ (.pointer (some ⟨rb, 0, none⟩))).setCell ⟨b, 6, none⟩ (.slice (some ⟨g, 0, none⟩) (L + 1) (L + (sp.length + 1)))).alloc ob) ∧
        ∀ x ∈ blocks (.mk tag b d1 p h (kids ++ [.mk .st rb ⟨0, np, 0, ⟨#[]⟩, none⟩ ⟨#[]⟩ none []])), x ∈ blocks (.mk tag b d p h kids) ∨ x = rb ∨ w.heap.size ≤ x) := by
      intro ob
      have hgm : g ∈ blocks (.mk tag b d p h kids) := by rw [blocks_mk]; unfold own; simp [hda]
      have hrg : rb ≠ g := fun e => hrb1 (by rw [e]; exact hgm)
      obtain ⟨V, hV⟩ : ∃ V, V = (w.setCell ⟨g, L, none⟩ (.pointer (some ⟨rb, 0, none⟩))).setCell ⟨b, 6, none⟩ (.slice (some ⟨g, 0, none⟩) (L + 1) (L + (sp.length + 1))) := ⟨_, rfl⟩
      have hVs : V.heap.size = w.heap.size := by rw [hV]; simp [World.setCell]
      have hrow1 : (w.setCell ⟨g, L, none⟩ (.pointer (some ⟨rb, 0, none⟩))).heap[b]? = some (.cells (vals tag d p h kids.length) ty (0, 0)) := (Below.heap_setCell _ _ _ _ hgb).trans hrow
      have hg1 := row_set hgrow2 L (.pointer (some ⟨rb, 0, none⟩))
      rw [← hV]
      have hnd := HR.out.nd
      rw [blocks_mk] at hnd
      have hno : ∀ x ∈ blocksL kids, x ≠ b ∧ x ≠ g := by
        intro x hx
        constructor
        · intro e; subst e
          exact (List.nodup_append.1 hnd).2.2 x (by unfold own; simp only; split <;> simp) x hx rfl
        · intro e; subst e
          exact (List.nodup_append.1 hnd).2.2 x (by unfold own; simp [hda]) x hx rfl
      refine ⟨{ d with arr := some (g, sp) }, rfl, ?_, ?_, ?_⟩
      · refine Rep.snoc (g2 := g) (sp2 := sp) HR.out ⟨ty, ?_⟩ ⟨ty3, ?_⟩ rfl rfl ?_ ?_ ?_ hrb1 hrg hgb ?_
        · rw [alloc_lt _ _ (by omega), hV, row_set hrow1, hL]
          show some (Obj.cells (Array.setIfInBounds (vals tag d p h L) 6 (Value.slice (some ⟨g, 0, none⟩) (L + 1) (L + (sp.length + 1)))) ty (0, 0)) = some (Obj.cells (vals tag { d with arr := some (g, sp) } p h (L + 1)) ty (0, 0))
          rw [show L + (sp.length + 1) = L + 1 + sp.length by omega]
          rfl
        · rw [alloc_lt _ _ (by omega), hV, Below.heap_setCell _ _ _ _ (by simpa using hbn), Below.heap_setCell _ _ _ _ (by simpa using hrg)]
          exact hrb3
        · rw [alloc_lt _ _ (by omega), hV, Below.heap_setCell _ _ _ _ (by simpa using Ne.symm hgb), hg1]
          congr 2
          rw [List.setIfInBounds_toArray, List.set_append_right _ _ (by simp [hL])]
          simp [hL]
        · rw [hL]; omega
        · intro x hx
          have hxb : x ∈ blocks (.mk tag b d p h kids) := by rw [blocks_mk]; simp [hx]
          have hxN := HR.out.lt x hxb
          rw [alloc_lt _ _ (by omega), hV, Below.heap_setCell _ _ _ _ (by simpa using (hno x hx).1), Below.heap_setCell _ _ _ _ (by simpa using (hno x hx).2)]
        · intro hx
          exact (hno g hx).2 rfl
      · rw [hV]
        exact (((Kept.refl _ w).setCell (p := ⟨g, L, none⟩) (.inl hgm) _).setCell (p := ⟨b, 6, none⟩) (.inl (mem_blocks_self (.mk tag b d p h kids))) _).alloc _
      · intro x hx
        rw [blocks_mk, blocksL_append, blocksL_cons, blocksL_nil, blocks_leaf rfl] at hx
        have ho : own (.mk tag b { d with arr := some (g, sp) } p h (kids ++ [.mk .st rb ⟨0, np, 0, ⟨#[]⟩, none⟩ ⟨#[]⟩ none []])) = [b, g] := by simp [own]
        rw [ho] at hx
        have hx' : x = b ∨ x = g ∨ x ∈ blocksL kids ∨ x = rb := by simpa using hx
        rcases hx' with rfl | rfl | hx' | rfl
        · exact .inl (mem_blocks_self (.mk tag x d p h kids))
        · exact .inl hgm
        · exact .inl (by rw [blocks_mk]; simp [hx'])
        · exact .inr (.inl rfl)
    clear hc6 hgrow2 hglen hrow hrb3 hgrow hN hL hrb1
    go_wp2
    obtain ⟨d1, e1, h1, h2, h3⟩ := HROOM.out (.cells #[.pointer (some ⟨rb, 0, none⟩)] 76)
    refine hK _ _ d1 ?_ rfl e1 h1 h2 h3
    exact ⟨rfl, rfl, rfl, rfl, rfl, rfl, rfl, rfl⟩


end Go.Proofs.Ytcobbbbnmepmfaa
