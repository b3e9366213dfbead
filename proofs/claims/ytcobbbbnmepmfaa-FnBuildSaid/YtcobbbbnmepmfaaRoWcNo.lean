/- addRoute's round: a wildcard that doesn't fit: the conflict. -/
import Derived.Test.YtcobbbbnmepmfaaRoPanic
namespace Go.Proofs.Ytcobbbbnmepmfaa
open Go Go.RowKit Go.Lib Tr
set_option linter.unusedVariables false

noncomputable def roW : Code := thn (snd roA1)
noncomputable def roR25 : Code := fst roA1
noncomputable def roR26 : Code := fst roW
noncomputable def roR27 : Code := fst (snd roW)
noncomputable def roM28 : Code := fst (snd (snd roW))
noncomputable def roR30 : Code := fst (snd (snd (snd roW)))
noncomputable def roR31 : Code := fst (snd (snd (snd (snd roW))))

theorem roA1_eq : roA1 = .seq roR25 (.cond (.tmp 176) (.seq roR26 (.seq roR27 (.seq roM28 (.seq roR30 (.seq roR31 (.cond (.tmp 250) (.exit 1) roP)))))) .skip) := by kernel_rfl

/-- The wildcard's node, as far as it counts. -/
structure CbAt (w : World) (cb : Nat) (cp : ByteArray) (m mp : Nat) : Prop where
  c0 : w.cell? ⟨cb, 0, none⟩ = some (.string cp)
  c2 : w.cell? ⟨cb, 2, none⟩ = some (.int .u8 (m : Int))
  c3 : w.cell? ⟨cb, 3, none⟩ = some (.int .u8 (mp : Int))
  f3 : w.frozen? ⟨cb, 3, none⟩ = false

theorem cell_set_off {w : World} {b i j : Nat} {v u : Value} (h : w.cell? ⟨b, i, none⟩ = some u) (hij : i ≠ j) : (w.setCell ⟨b, j, none⟩ v).cell? ⟨b, i, none⟩ = some u := by
  rw [World.cell?_setCell_other]
  · exact h
  · intro e
    exact hij (Addr.mk.inj e).2.1.symm

/-- No match. -/
def Miss (pth' cp : ByteArray) (m : Nat) : Prop :=
  pth'.size < cp.size ∨ (cp.size ≤ pth'.size ∧ ((cp.toList == (pth'.extract 0 cp.size).toList) = false ∨ ((cp.toList == (pth'.extract 0 cp.size).toList) = true ∧ (m = 3 ∨ (m = 2 ∧ ∃ h : cp.size < pth'.size, pth'[cp.size]'h ≠ 47)))))

set_option maxHeartbeats 16000000 in
set_option maxRecDepth 100000 in
theorem ro_w1 {w : World} {b cb n np m mp g cap : Nat} {pr : Int} {p cp full pth pth' : ByteArray} (x3 x4 x5 x9 x10 x11 x12 x13 x14 x15 x16 x17 x18 x19 x20 x21 x22 x23 x24 x25 x26 x27 x28 x29 x30 x31 x32 x33 x34 x35 x36 x37 x38 x39 x40 x41 x42 x43 x44 x45 x46 x47 x48 x49 x50 x51 x52 x53 x54 x55 x56 x57 x58 x59 x60 x61 x62 x63 x64 x65 x66 x67 x68 x69 x70 x71 x72 x73 x74 x75 x76 x77 x78 x79 x80 x81 x82 x83 x84 x85 x86 x87 x88 x89 x90 x91 x92 x93 x94 x95 x96 x97 x98 x99 x100 x101 x102 x103 x104 x105 x106 x107 x108 x109 x110 x111 x112 x113 x114 x115 x116 x117 x118 x119 x120 x121 x122 x123 x124 x125 x126 x127 x128 x129 x130 x131 x132 x133 x134 x135 x136 x137 x138 x139 x140 x141 x142 x143 x144 x145 x146 x147 x148 x149 x150 x151 x152 x153 x154 x155 x156 x157 x158 x159 x160 x161 x162 x163 x164 x165 x166 x167 x168 x169 x170 x171 x172 x173 x174 x175 x176 x177 x178 x179 x180 x181 x182 x183 x184 x185 x186 x187 x188 x189 x190 x191 x192 x193 x194 x195 x196 x197 x198 x199 x200 x201 x202 x203 x204 x205 x206 x207 x208 x209 x210 x211 x212 x213 x214 x215 x216 x217 x218 x219 x220 x221 x222 x223 x224 x225 x226 x227 x228 x229 x230 x231 x232 x233 x234 x235 x236 x237 x238 x239 x240 x241 x242 x243 x244 x245 x246 x247 x248 x249 x250 x251 x252 x253 x254 x255 x256 x257 x258 x259 x260 x261 x262 x263 x264 x265 x266 x267 x268 x269 x270 x271 x272 x273 x274 x275 x276 x277 x278 x279 x280 x281 x282 x283 x284 x285 x286 x287 x288 x289 x290 x291 x292 x293 x294 x295 x296 x297 x298 x299 x300 x301 x302 x303 x304 x305 x306 x307 x308 x309 x310 x311 x312 x313 x314 x315 x316 x317 x318 x319 x320 x321 x322 x323 x324 x325 x326 x327 x328 x329 x330 x331 x332 x333 x334 x335 x336 x337 x338 x339 x340 x341 x342 x343 x344 x345 x346 x347 x348 x349 x350 x351 x352 x353 x354 x355 x356 x357 x358 x359 x360 x361 x362 x363 x364 x365 x366 x367 x368 x369 x370 x371 x372 x373 x374 x375 x376 x377 x378 x379 x380 x381 x382 x383 x384 x385 x386 x387 x388 x389 x390 x391 x392 x393 x394 x395 x396 x397 x398 x399 x400 x401 x402 x403 x404 x405 x406 x407 x408 x409 x410 x411 x412 x413 x414 x415 x416 x417 x418 x419 : Value) (X X2 E : Code) (hps : pth.size ≤ 2147483647) (hpe : pth' = pth.extract p.size pth.size) (he : p.size < pth.size) (hc1 : w.cell? ⟨b, 1, none⟩ = some (.bool true)) (hc6 : w.cell? ⟨b, 6, none⟩ = some (.slice (some ⟨g, 0, none⟩) 1 cap)) (hg : w.cell? ⟨g, 0, none⟩ = some (.pointer (some ⟨cb, 0, none⟩))) (HC : Hid (CbAt w cb cp m mp)) (k4 : w.cell? ⟨cb, 4, none⟩ = some (.int .u32 pr)) (f4 : w.frozen? ⟨cb, 4, none⟩ = false) {Q : Exit → Act → World → Prop} (hK : ∀ a' (K : Act → World → Prop) W, (∃ v8, Fr a' (.pointer (some ⟨cb, 0, none⟩)) (.string pth') (.iface 3 (.int .i64 (n : Int))) (.string full) (.int .u8 (np : Int)) v8) → CbAt W cb cp m mp → Kept [cb] w W → X.wp Try.prog (Exit.then K Q) a' W) :
    (Code.seq roR23 (.cond (.tmp 169) (.seq roR24 (.seq (.seq roR25 (.cond (.tmp 176) (.seq roR26 (.seq roR27 X)) .skip)) X2)) E)).wp Try.prog Q ⟨#[.pointer (some ⟨b, 0, none⟩), .string pth, .iface 3 (.int .i64 (n : Int)), x3, x4, x5, .string full, .int .u8 (np : Int), .int .i64 (p.size : Int), x9, x10, x11, x12, x13, x14, x15, x16, x17, x18, x19, x20, x21, x22, x23, x24, x25, x26, x27, x28, x29, x30, x31, x32, x33, x34, x35, x36, x37, x38, x39, x40, x41, x42, x43, x44, x45, x46, x47, x48, x49, x50, x51, x52, x53, x54, x55, x56, x57, x58, x59, x60, x61, x62, x63, x64, x65, x66, x67, x68, x69, x70, x71, x72, x73, x74, x75, x76, x77, x78, x79, x80, x81, x82, x83, x84, x85, x86, x87, x88, x89, x90, x91, x92, x93, x94, x95, x96, x97, x98, x99, x100, x101, x102, x103, x104, x105, x106, x107, x108, x109, x110, x111, x112, x113, x114, x115, x116, x117, x118, x119, x120, x121, x122, x123, x124, x125, x126, x127, x128, x129, x130, x131, x132, x133, x134, x135, x136, x137, x138, x139, x140, x141, x142, x143, x144, x145, x146, x147, x148, x149, x150, x151, x152, x153, x154, x155, x156, x157, x158, x159, x160, x161, x162, x163, x164, x165, x166, x167, x168, x169, x170, x171, x172, x173, x174, x175, x176, x177, x178, x179, x180, x181, x182, x183, x184, x185, x186, x187, x188, x189, x190, x191, x192, x193, x194, x195, x196, x197, x198, x199, x200, x201, x202, x203, x204, x205, x206, x207, x208, x209, x210, x211, x212, x213, x214, x215, x216, x217, x218, x219, x220, x221, x222, x223, x224, x225, x226, x227, x228, x229, x230, x231, x232, x233, x234, x235, x236, x237, x238, x239, x240, x241, x242, x243, x244, x245, x246, x247, x248, x249, x250, x251, x252, x253, x254, x255, x256, x257, x258, x259, x260, x261, x262, x263, x264, x265, x266, x267, x268, x269, x270, x271, x272, x273, x274, x275, x276, x277, x278, x279, x280, x281, x282, x283, x284, x285, x286, x287, x288, x289, x290, x291, x292, x293, x294, x295, x296, x297, x298, x299, x300, x301, x302, x303, x304, x305, x306, x307, x308, x309, x310, x311, x312, x313, x314, x315, x316, x317, x318, x319, x320, x321, x322, x323, x324, x325, x326, x327, x328, x329, x330, x331, x332, x333, x334, x335, x336, x337, x338, x339, x340, x341, x342, x343, x344, x345, x346, x347, x348, x349, x350, x351, x352, x353, x354, x355, x356, x357, x358, x359, x360, x361, x362, x363, x364, x365, x366, x367, x368, x369, x370, x371, x372, x373, x374, x375, x376, x377, x378, x379, x380, x381, x382, x383, x384, x385, x386, x387, x388, x389, x390, x391, x392, x393, x394, x395, x396, x397, x398, x399, x400, x401, x402, x403, x404, x405, x406, x407, x408, x409, x410, x411, x412, x413, x414, x415, x416, x417, x418, x419], []⟩ w := by
  have t1 : (p.size : Int) < (pth.size : Int) := by omega
  have t2 : (p.size : Int) ≤ (pth.size : Int) := by omega
  have hpe' : pth.extract p.size pth.size = pth' := hpe.symm
  have hps' : pth'.size ≤ 2147483647 := by rw [hpe, ByteArray.size_extract]; omega
  have HKK : Hid (∀ a' (K : Act → World → Prop) (v : Value), (∃ v8, Fr a' (.pointer (some ⟨cb, 0, none⟩)) (.string pth') (.iface 3 (.int .i64 (n : Int))) (.string full) (.int .u8 (np : Int)) v8) → X.wp Try.prog (Exit.then K Q) a' (w.setCell ⟨cb, 4, none⟩ v)) := by
    intro a' K v hfr
    refine hK a' K _ hfr ⟨cell_set_off HC.out.c0 (by decide), cell_set_off HC.out.c2 (by decide), cell_set_off HC.out.c3 (by decide), ?_⟩ ((Kept.refl [cb] w).setCell (p := ⟨cb, 4, none⟩) (.inl (by simp)) _)
    rw [World.frozen?_setCell]; exact HC.out.f3
  clear hpe he hK
  conv => arg 2; arg 1; whnf
  conv => arg 2; arg 2; arg 2; arg 1; whnf
  conv => arg 2; arg 2; arg 2; arg 2; arg 1; arg 1; whnf
  conv => arg 2; arg 2; arg 2; arg 2; arg 1; arg 2; arg 2; arg 1; whnf
  conv => arg 2; arg 2; arg 2; arg 2; arg 1; arg 2; arg 2; arg 2; arg 1; whnf
  go_wp2
  refine HKK.out _ _ _ ⟨.int .i64 (p.size : Int), ?_⟩
  exact ⟨rfl, rfl, rfl, rfl, rfl, rfl, rfl, rfl⟩

set_option maxHeartbeats 16000000 in
set_option maxRecDepth 100000 in
theorem ro_w2 {w : World} {cb n np m mp : Nat} {cp full pth' : ByteArray} (x3 x4 x5 x8 x9 x10 x11 x12 x13 x14 x15 x16 x17 x18 x19 x20 x21 x22 x23 x24 x25 x26 x27 x28 x29 x30 x31 x32 x33 x34 x35 x36 x37 x38 x39 x40 x41 x42 x43 x44 x45 x46 x47 x48 x49 x50 x51 x52 x53 x54 x55 x56 x57 x58 x59 x60 x61 x62 x63 x64 x65 x66 x67 x68 x69 x70 x71 x72 x73 x74 x75 x76 x77 x78 x79 x80 x81 x82 x83 x84 x85 x86 x87 x88 x89 x90 x91 x92 x93 x94 x95 x96 x97 x98 x99 x100 x101 x102 x103 x104 x105 x106 x107 x108 x109 x110 x111 x112 x113 x114 x115 x116 x117 x118 x119 x120 x121 x122 x123 x124 x125 x126 x127 x128 x129 x130 x131 x132 x133 x134 x135 x136 x137 x138 x139 x140 x141 x142 x143 x144 x145 x146 x147 x148 x149 x150 x151 x152 x153 x154 x155 x156 x157 x158 x159 x160 x161 x162 x163 x164 x165 x166 x167 x168 x169 x170 x171 x172 x173 x174 x175 x176 x177 x178 x179 x180 x181 x182 x183 x184 x185 x186 x187 x188 x189 x190 x191 x192 x193 x194 x195 x196 x197 x198 x199 x200 x201 x202 x203 x204 x205 x206 x207 x208 x209 x210 x211 x212 x213 x214 x215 x216 x217 x218 x219 x220 x221 x222 x223 x224 x225 x226 x227 x228 x229 x230 x231 x232 x233 x234 x235 x236 x237 x238 x239 x240 x241 x242 x243 x244 x245 x246 x247 x248 x249 x250 x251 x252 x253 x254 x255 x256 x257 x258 x259 x260 x261 x262 x263 x264 x265 x266 x267 x268 x269 x270 x271 x272 x273 x274 x275 x276 x277 x278 x279 x280 x281 x282 x283 x284 x285 x286 x287 x288 x289 x290 x291 x292 x293 x294 x295 x296 x297 x298 x299 x300 x301 x302 x303 x304 x305 x306 x307 x308 x309 x310 x311 x312 x313 x314 x315 x316 x317 x318 x319 x320 x321 x322 x323 x324 x325 x326 x327 x328 x329 x330 x331 x332 x333 x334 x335 x336 x337 x338 x339 x340 x341 x342 x343 x344 x345 x346 x347 x348 x349 x350 x351 x352 x353 x354 x355 x356 x357 x358 x359 x360 x361 x362 x363 x364 x365 x366 x367 x368 x369 x370 x371 x372 x373 x374 x375 x376 x377 x378 x379 x380 x381 x382 x383 x384 x385 x386 x387 x388 x389 x390 x391 x392 x393 x394 x395 x396 x397 x398 x399 x400 x401 x402 x403 x404 x405 x406 x407 x408 x409 x410 x411 x412 x413 x414 x415 x416 x417 x418 x419 : Value) (HC : Hid (CbAt w cb cp m mp)) (hnp : np ≤ 20) {K : Act → World → Prop} {Q : Exit → Act → World → Prop} (hK : ∀ a' W, (∃ v8, Fr a' (.pointer (some ⟨cb, 0, none⟩)) (.string pth') (.iface 3 (.int .i64 (n : Int))) (.string full) (.int .u8 (np : Int)) v8) → W.cell? ⟨cb, 0, none⟩ = some (.string cp) → W.cell? ⟨cb, 2, none⟩ = some (.int .u8 (m : Int)) → Kept [cb] w W → K a' W) :
    roM28.wp Try.prog (Exit.then K Q) ⟨#[.pointer (some ⟨cb, 0, none⟩), .string pth', .iface 3 (.int .i64 (n : Int)), x3, x4, x5, .string full, .int .u8 (np : Int), x8, x9, x10, x11, x12, x13, x14, x15, x16, x17, x18, x19, x20, x21, x22, x23, x24, x25, x26, x27, x28, x29, x30, x31, x32, x33, x34, x35, x36, x37, x38, x39, x40, x41, x42, x43, x44, x45, x46, x47, x48, x49, x50, x51, x52, x53, x54, x55, x56, x57, x58, x59, x60, x61, x62, x63, x64, x65, x66, x67, x68, x69, x70, x71, x72, x73, x74, x75, x76, x77, x78, x79, x80, x81, x82, x83, x84, x85, x86, x87, x88, x89, x90, x91, x92, x93, x94, x95, x96, x97, x98, x99, x100, x101, x102, x103, x104, x105, x106, x107, x108, x109, x110, x111, x112, x113, x114, x115, x116, x117, x118, x119, x120, x121, x122, x123, x124, x125, x126, x127, x128, x129, x130, x131, x132, x133, x134, x135, x136, x137, x138, x139, x140, x141, x142, x143, x144, x145, x146, x147, x148, x149, x150, x151, x152, x153, x154, x155, x156, x157, x158, x159, x160, x161, x162, x163, x164, x165, x166, x167, x168, x169, x170, x171, x172, x173, x174, x175, x176, x177, x178, x179, x180, x181, x182, x183, x184, x185, x186, x187, x188, x189, x190, x191, x192, x193, x194, x195, x196, x197, x198, x199, x200, x201, x202, x203, x204, x205, x206, x207, x208, x209, x210, x211, x212, x213, x214, x215, x216, x217, x218, x219, x220, x221, x222, x223, x224, x225, x226, x227, x228, x229, x230, x231, x232, x233, x234, x235, x236, x237, x238, x239, x240, x241, x242, x243, x244, x245, x246, x247, x248, x249, x250, x251, x252, x253, x254, x255, x256, x257, x258, x259, x260, x261, x262, x263, x264, x265, x266, x267, x268, x269, x270, x271, x272, x273, x274, x275, x276, x277, x278, x279, x280, x281, x282, x283, x284, x285, x286, x287, x288, x289, x290, x291, x292, x293, x294, x295, x296, x297, x298, x299, x300, x301, x302, x303, x304, x305, x306, x307, x308, x309, x310, x311, x312, x313, x314, x315, x316, x317, x318, x319, x320, x321, x322, x323, x324, x325, x326, x327, x328, x329, x330, x331, x332, x333, x334, x335, x336, x337, x338, x339, x340, x341, x342, x343, x344, x345, x346, x347, x348, x349, x350, x351, x352, x353, x354, x355, x356, x357, x358, x359, x360, x361, x362, x363, x364, x365, x366, x367, x368, x369, x370, x371, x372, x373, x374, x375, x376, x377, x378, x379, x380, x381, x382, x383, x384, x385, x386, x387, x388, x389, x390, x391, x392, x393, x394, x395, x396, x397, x398, x399, x400, x401, x402, x403, x404, x405, x406, x407, x408, x409, x410, x411, x412, x413, x414, x415, x416, x417, x418, x419], []⟩ w := by
  conv => arg 2; whnf
  have c3 := HC.out.c3
  have f3 := HC.out.f3
  have HK := Lib.hid hK
  clear hK
  by_cases hmp : mp < np
  · have tm : (mp : Int) < (np : Int) := by omega
    clear hmp
    go_wp2
    refine HK.out _ _ ⟨x8, ?_⟩ (cell_set_off HC.out.c0 (by decide)) (cell_set_off HC.out.c2 (by decide)) ((Kept.refl [cb] w).setCell (p := ⟨cb, 3, none⟩) (.inl (by simp)) _)
    exact ⟨rfl, rfl, rfl, rfl, rfl, rfl, rfl, rfl⟩
  · have tm : ¬ (mp : Int) < (np : Int) := by omega
    clear hmp
    go_wp2
    refine HK.out _ _ ⟨x8, ?_⟩ HC.out.c0 HC.out.c2 (Kept.refl [cb] w)
    exact ⟨rfl, rfl, rfl, rfl, rfl, rfl, rfl, rfl⟩

set_option maxHeartbeats 16000000 in
set_option maxRecDepth 100000 in
theorem ro_w3 {w : World} {cb n np m : Nat} {cp full pth' : ByteArray} (x3 x4 x5 x8 x9 x10 x11 x12 x13 x14 x15 x16 x17 x18 x19 x20 x21 x22 x23 x24 x25 x26 x27 x28 x29 x30 x31 x32 x33 x34 x35 x36 x37 x38 x39 x40 x41 x42 x43 x44 x45 x46 x47 x48 x49 x50 x51 x52 x53 x54 x55 x56 x57 x58 x59 x60 x61 x62 x63 x64 x65 x66 x67 x68 x69 x70 x71 x72 x73 x74 x75 x76 x77 x78 x79 x80 x81 x82 x83 x84 x85 x86 x87 x88 x89 x90 x91 x92 x93 x94 x95 x96 x97 x98 x99 x100 x101 x102 x103 x104 x105 x106 x107 x108 x109 x110 x111 x112 x113 x114 x115 x116 x117 x118 x119 x120 x121 x122 x123 x124 x125 x126 x127 x128 x129 x130 x131 x132 x133 x134 x135 x136 x137 x138 x139 x140 x141 x142 x143 x144 x145 x146 x147 x148 x149 x150 x151 x152 x153 x154 x155 x156 x157 x158 x159 x160 x161 x162 x163 x164 x165 x166 x167 x168 x169 x170 x171 x172 x173 x174 x175 x176 x177 x178 x179 x180 x181 x182 x183 x184 x185 x186 x187 x188 x189 x190 x191 x192 x193 x194 x195 x196 x197 x198 x199 x200 x201 x202 x203 x204 x205 x206 x207 x208 x209 x210 x211 x212 x213 x214 x215 x216 x217 x218 x219 x220 x221 x222 x223 x224 x225 x226 x227 x228 x229 x230 x231 x232 x233 x234 x235 x236 x237 x238 x239 x240 x241 x242 x243 x244 x245 x246 x247 x248 x249 x250 x251 x252 x253 x254 x255 x256 x257 x258 x259 x260 x261 x262 x263 x264 x265 x266 x267 x268 x269 x270 x271 x272 x273 x274 x275 x276 x277 x278 x279 x280 x281 x282 x283 x284 x285 x286 x287 x288 x289 x290 x291 x292 x293 x294 x295 x296 x297 x298 x299 x300 x301 x302 x303 x304 x305 x306 x307 x308 x309 x310 x311 x312 x313 x314 x315 x316 x317 x318 x319 x320 x321 x322 x323 x324 x325 x326 x327 x328 x329 x330 x331 x332 x333 x334 x335 x336 x337 x338 x339 x340 x341 x342 x343 x344 x345 x346 x347 x348 x349 x350 x351 x352 x353 x354 x355 x356 x357 x358 x359 x360 x361 x362 x363 x364 x365 x366 x367 x368 x369 x370 x371 x372 x373 x374 x375 x376 x377 x378 x379 x380 x381 x382 x383 x384 x385 x386 x387 x388 x389 x390 x391 x392 x393 x394 x395 x396 x397 x398 x399 x400 x401 x402 x403 x404 x405 x406 x407 x408 x409 x410 x411 x412 x413 x414 x415 x416 x417 x418 x419 : Value) (Y : Code) (hps : pth'.size ≤ 2147483647) (hnp : np ≤ 20) (k0 : w.cell? ⟨cb, 0, none⟩ = some (.string cp)) (k2 : w.cell? ⟨cb, 2, none⟩ = some (.int .u8 (m : Int))) (hM : Miss pth' cp m) {Q : Exit → Act → World → Prop} (hK : ∀ a' q, Fr a' (.pointer (some ⟨cb, 0, none⟩)) (.string pth') (a'.tmps.getD 2 undef) (.string full) (a'.tmps.getD 7 undef) (a'.tmps.getD 8 undef) → Y.wp Try.prog Q a' (w.drewN q)) :
    (Code.seq roR30 (.seq roR31 (.cond (.tmp 250) (.exit 1) Y))).wp Try.prog Q ⟨#[.pointer (some ⟨cb, 0, none⟩), .string pth', .iface 3 (.int .i64 (n : Int)), x3, x4, x5, .string full, .int .u8 (np : Int), x8, x9, x10, x11, x12, x13, x14, x15, x16, x17, x18, x19, x20, x21, x22, x23, x24, x25, x26, x27, x28, x29, x30, x31, x32, x33, x34, x35, x36, x37, x38, x39, x40, x41, x42, x43, x44, x45, x46, x47, x48, x49, x50, x51, x52, x53, x54, x55, x56, x57, x58, x59, x60, x61, x62, x63, x64, x65, x66, x67, x68, x69, x70, x71, x72, x73, x74, x75, x76, x77, x78, x79, x80, x81, x82, x83, x84, x85, x86, x87, x88, x89, x90, x91, x92, x93, x94, x95, x96, x97, x98, x99, x100, x101, x102, x103, x104, x105, x106, x107, x108, x109, x110, x111, x112, x113, x114, x115, x116, x117, x118, x119, x120, x121, x122, x123, x124, x125, x126, x127, x128, x129, x130, x131, x132, x133, x134, x135, x136, x137, x138, x139, x140, x141, x142, x143, x144, x145, x146, x147, x148, x149, x150, x151, x152, x153, x154, x155, x156, x157, x158, x159, x160, x161, x162, x163, x164, x165, x166, x167, x168, x169, x170, x171, x172, x173, x174, x175, x176, x177, x178, x179, x180, x181, x182, x183, x184, x185, x186, x187, x188, x189, x190, x191, x192, x193, x194, x195, x196, x197, x198, x199, x200, x201, x202, x203, x204, x205, x206, x207, x208, x209, x210, x211, x212, x213, x214, x215, x216, x217, x218, x219, x220, x221, x222, x223, x224, x225, x226, x227, x228, x229, x230, x231, x232, x233, x234, x235, x236, x237, x238, x239, x240, x241, x242, x243, x244, x245, x246, x247, x248, x249, x250, x251, x252, x253, x254, x255, x256, x257, x258, x259, x260, x261, x262, x263, x264, x265, x266, x267, x268, x269, x270, x271, x272, x273, x274, x275, x276, x277, x278, x279, x280, x281, x282, x283, x284, x285, x286, x287, x288, x289, x290, x291, x292, x293, x294, x295, x296, x297, x298, x299, x300, x301, x302, x303, x304, x305, x306, x307, x308, x309, x310, x311, x312, x313, x314, x315, x316, x317, x318, x319, x320, x321, x322, x323, x324, x325, x326, x327, x328, x329, x330, x331, x332, x333, x334, x335, x336, x337, x338, x339, x340, x341, x342, x343, x344, x345, x346, x347, x348, x349, x350, x351, x352, x353, x354, x355, x356, x357, x358, x359, x360, x361, x362, x363, x364, x365, x366, x367, x368, x369, x370, x371, x372, x373, x374, x375, x376, x377, x378, x379, x380, x381, x382, x383, x384, x385, x386, x387, x388, x389, x390, x391, x392, x393, x394, x395, x396, x397, x398, x399, x400, x401, x402, x403, x404, x405, x406, x407, x408, x409, x410, x411, x412, x413, x414, x415, x416, x417, x418, x419], []⟩ w := by
  have HK := Lib.hid hK
  clear hK
  conv => arg 2; arg 1; whnf
  conv => arg 2; arg 2; arg 1; whnf
  rcases hM with h1 | ⟨h1, h2 | ⟨h2, rfl | ⟨rfl, hlt, h3⟩⟩⟩
  · have tA : decide ((cp.size : Int) ≤ (pth'.size : Int)) = false := by simp; omega
    have tA2 : decide (cp.size ≤ pth'.size) = false := by simp; omega
    clear h1
    go_wp2_with fail
    go_quiet (fail)
    go_wp2
    refine HK.out _ _ ?_
    exact ⟨rfl, rfl, rfl, rfl, rfl, rfl, rfl, rfl⟩
  · have tA : (cp.size : Int) ≤ (pth'.size : Int) := by omega
    go_wp2_with fail
    go_quiet (fail)
    go_wp2
    refine HK.out _ _ ?_
    exact ⟨rfl, rfl, rfl, rfl, rfl, rfl, rfl, rfl⟩
  · have tA : (cp.size : Int) ≤ (pth'.size : Int) := by omega
    go_wp2_with fail
    go_quiet (fail)
    go_wp2
    refine HK.out _ _ ?_
    exact ⟨rfl, rfl, rfl, rfl, rfl, rfl, rfl, rfl⟩
  · have tA : (cp.size : Int) ≤ (pth'.size : Int) := by omega
    have tD : decide ((pth'.size : Int) ≤ (cp.size : Int)) = false := by simp; omega
    have tE : (((pth'[cp.size]'hlt).toNat : Int) == 47) = false := by
      rw [show (47 : Int) = ((47 : UInt8).toNat : Int) from rfl, beq_u8]; simpa using h3
    clear h3
    go_wp2_with fail
    go_quiet (fail)
    go_wp2
    refine HK.out _ _ ?_
    exact ⟨rfl, rfl, rfl, rfl, rfl, rfl, rfl, rfl⟩


end Go.Proofs.Ytcobbbbnmepmfaa
