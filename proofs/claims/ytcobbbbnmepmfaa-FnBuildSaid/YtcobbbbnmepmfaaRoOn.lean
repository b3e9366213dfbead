/- addRoute's round: at a node that bears no wildcard: to the search, and all its ends. -/
import Derived.Test.YtcobbbbnmepmfaaRoIn
namespace Go.Proofs.Ytcobbbbnmepmfaa
open Go Go.RowKit Go.Lib Tr

noncomputable def roR23 : Code := fst roD
noncomputable def roR24 : Code := fst (thn (snd roD))
noncomputable def roA1 : Code := fst (snd (thn (snd roD)))
noncomputable def roR41 : Code := fst roX2
noncomputable def roA3 : Code := fst (snd roX2)
noncomputable def roR45 : Code := fst (fst roX4)
noncomputable def roE : Code := els (snd roD)

theorem roD_eq : roD = .seq roR23 (.cond (.tmp 169) (.seq roR24 (.seq roA1 (.seq roR41 (.seq roA3 (.seq (.seq roR45 roS) roX5))))) roE) := by kernel_rfl

set_option maxHeartbeats 16000000 in
set_option maxRecDepth 100000 in
theorem ro_on {w : World} {b n np L m : Nat} {p full pth pth' : ByteArray} {c : UInt8} (x3 x4 x5 x9 x10 x11 x12 x13 x14 x15 x16 x17 x18 x19 x20 x21 x22 x23 x24 x25 x26 x27 x28 x29 x30 x31 x32 x33 x34 x35 x36 x37 x38 x39 x40 x41 x42 x43 x44 x45 x46 x47 x48 x49 x50 x51 x52 x53 x54 x55 x56 x57 x58 x59 x60 x61 x62 x63 x64 x65 x66 x67 x68 x69 x70 x71 x72 x73 x74 x75 x76 x77 x78 x79 x80 x81 x82 x83 x84 x85 x86 x87 x88 x89 x90 x91 x92 x93 x94 x95 x96 x97 x98 x99 x100 x101 x102 x103 x104 x105 x106 x107 x108 x109 x110 x111 x112 x113 x114 x115 x116 x117 x118 x119 x120 x121 x122 x123 x124 x125 x126 x127 x128 x129 x130 x131 x132 x133 x134 x135 x136 x137 x138 x139 x140 x141 x142 x143 x144 x145 x146 x147 x148 x149 x150 x151 x152 x153 x154 x155 x156 x157 x158 x159 x160 x161 x162 x163 x164 x165 x166 x167 x168 x169 x170 x171 x172 x173 x174 x175 x176 x177 x178 x179 x180 x181 x182 x183 x184 x185 x186 x187 x188 x189 x190 x191 x192 x193 x194 x195 x196 x197 x198 x199 x200 x201 x202 x203 x204 x205 x206 x207 x208 x209 x210 x211 x212 x213 x214 x215 x216 x217 x218 x219 x220 x221 x222 x223 x224 x225 x226 x227 x228 x229 x230 x231 x232 x233 x234 x235 x236 x237 x238 x239 x240 x241 x242 x243 x244 x245 x246 x247 x248 x249 x250 x251 x252 x253 x254 x255 x256 x257 x258 x259 x260 x261 x262 x263 x264 x265 x266 x267 x268 x269 x270 x271 x272 x273 x274 x275 x276 x277 x278 x279 x280 x281 x282 x283 x284 x285 x286 x287 x288 x289 x290 x291 x292 x293 x294 x295 x296 x297 x298 x299 x300 x301 x302 x303 x304 x305 x306 x307 x308 x309 x310 x311 x312 x313 x314 x315 x316 x317 x318 x319 x320 x321 x322 x323 x324 x325 x326 x327 x328 x329 x330 x331 x332 x333 x334 x335 x336 x337 x338 x339 x340 x341 x342 x343 x344 x345 x346 x347 x348 x349 x350 x351 x352 x353 x354 x355 x356 x357 x358 x359 x360 x361 x362 x363 x364 x365 x366 x367 x368 x369 x370 x371 x372 x373 x374 x375 x376 x377 x378 x379 x380 x381 x382 x383 x384 x385 x386 x387 x388 x389 x390 x391 x392 x393 x394 x395 x396 x397 x398 x399 x400 x401 x402 x403 x404 x405 x406 x407 x408 x409 x410 x411 x412 x413 x414 x415 x416 x417 x418 x419 : Value) (S X E : Code) (hps : pth.size ≤ 2147483647) (hpe : pth' = pth.extract p.size pth.size) (he : p.size < pth.size) (h0 : 0 < pth'.size) (hc : pth'[0]'h0 = c) (hc1 : w.cell? ⟨b, 1, none⟩ = some (.bool false)) (hc2 : w.cell? ⟨b, 2, none⟩ = some (.int .u8 (m : Int))) (hc6 : ∃ a cp, w.cell? ⟨b, 6, none⟩ = some (.slice a L cp)) (hm : m ≠ 2 ∨ (m = 2 ∧ c = 47 ∧ L = 0)) {Q : Exit → Act → World → Prop} (hK : ∀ a' (K : Act → World → Prop), (∀ a w, X.wp Try.prog Q a w → K a w) → Fr a' (.pointer (some ⟨b, 0, none⟩)) (.string pth') (.iface 3 (.int .i64 (n : Int))) (.string full) (.int .u8 (np : Int)) (.int .i64 (p.size : Int)) → a'.tmps.getD 15 undef = .int .u8 (c.toNat : Int) → a'.tmps.getD 16 undef = .int .i64 0 → S.wp Try.prog (Exit.then K Q) a' w) :
    (Code.seq roR23 (.cond (.tmp 169) (.seq roR24 (.seq roA1 (.seq roR41 (.seq roA3 (.seq (.seq roR45 S) X))))) E)).wp Try.prog Q ⟨#[.pointer (some ⟨b, 0, none⟩), .string pth, .iface 3 (.int .i64 (n : Int)), x3, x4, x5, .string full, .int .u8 (np : Int), .int .i64 (p.size : Int), x9, x10, x11, x12, x13, x14, x15, x16, x17, x18, x19, x20, x21, x22, x23, x24, x25, x26, x27, x28, x29, x30, x31, x32, x33, x34, x35, x36, x37, x38, x39, x40, x41, x42, x43, x44, x45, x46, x47, x48, x49, x50, x51, x52, x53, x54, x55, x56, x57, x58, x59, x60, x61, x62, x63, x64, x65, x66, x67, x68, x69, x70, x71, x72, x73, x74, x75, x76, x77, x78, x79, x80, x81, x82, x83, x84, x85, x86, x87, x88, x89, x90, x91, x92, x93, x94, x95, x96, x97, x98, x99, x100, x101, x102, x103, x104, x105, x106, x107, x108, x109, x110, x111, x112, x113, x114, x115, x116, x117, x118, x119, x120, x121, x122, x123, x124, x125, x126, x127, x128, x129, x130, x131, x132, x133, x134, x135, x136, x137, x138, x139, x140, x141, x142, x143, x144, x145, x146, x147, x148, x149, x150, x151, x152, x153, x154, x155, x156, x157, x158, x159, x160, x161, x162, x163, x164, x165, x166, x167, x168, x169, x170, x171, x172, x173, x174, x175, x176, x177, x178, x179, x180, x181, x182, x183, x184, x185, x186, x187, x188, x189, x190, x191, x192, x193, x194, x195, x196, x197, x198, x199, x200, x201, x202, x203, x204, x205, x206, x207, x208, x209, x210, x211, x212, x213, x214, x215, x216, x217, x218, x219, x220, x221, x222, x223, x224, x225, x226, x227, x228, x229, x230, x231, x232, x233, x234, x235, x236, x237, x238, x239, x240, x241, x242, x243, x244, x245, x246, x247, x248, x249, x250, x251, x252, x253, x254, x255, x256, x257, x258, x259, x260, x261, x262, x263, x264, x265, x266, x267, x268, x269, x270, x271, x272, x273, x274, x275, x276, x277, x278, x279, x280, x281, x282, x283, x284, x285, x286, x287, x288, x289, x290, x291, x292, x293, x294, x295, x296, x297, x298, x299, x300, x301, x302, x303, x304, x305, x306, x307, x308, x309, x310, x311, x312, x313, x314, x315, x316, x317, x318, x319, x320, x321, x322, x323, x324, x325, x326, x327, x328, x329, x330, x331, x332, x333, x334, x335, x336, x337, x338, x339, x340, x341, x342, x343, x344, x345, x346, x347, x348, x349, x350, x351, x352, x353, x354, x355, x356, x357, x358, x359, x360, x361, x362, x363, x364, x365, x366, x367, x368, x369, x370, x371, x372, x373, x374, x375, x376, x377, x378, x379, x380, x381, x382, x383, x384, x385, x386, x387, x388, x389, x390, x391, x392, x393, x394, x395, x396, x397, x398, x399, x400, x401, x402, x403, x404, x405, x406, x407, x408, x409, x410, x411, x412, x413, x414, x415, x416, x417, x418, x419], []⟩ w := by
  have e1 : roR23 = fst roD := rfl
  obtain ⟨a6, cp6, hc6⟩ := hc6
  have t1 : (p.size : Int) < (pth.size : Int) := by omega
  have t2 : (p.size : Int) ≤ (pth.size : Int) := by omega
  have t0 : (0 : Int) < (pth'.size : Int) := by omega
  have hpe' : pth.extract p.size pth.size = pth' := hpe.symm
  have hps' : pth'.size ≤ 2147483647 := by rw [hpe, ByteArray.size_extract]; omega
  clear hpe he
  rcases hm with hm | ⟨rfl, rfl, rfl⟩
  · have tm : ((m : Int) == 2) = false := by simpa using fun e : (m : Int) = 2 => hm (by omega)
    clear hm
    conv => arg 2; arg 1; whnf
    conv => arg 2; arg 2; arg 2; arg 1; whnf
    conv => arg 2; arg 2; arg 2; arg 2; arg 1; whnf
    conv => arg 2; arg 2; arg 2; arg 2; arg 2; arg 1; whnf
    conv => arg 2; arg 2; arg 2; arg 2; arg 2; arg 2; arg 1; whnf
    conv => arg 2; arg 2; arg 2; arg 2; arg 2; arg 2; arg 2; arg 1; arg 1; whnf
    go_wp2
    rename_i K0 hk0
    refine hK _ K0 hk0 ?_ rfl rfl
    exact ⟨rfl, rfl, rfl, rfl, rfl, rfl, rfl, rfl⟩
  · have t47 : (((47 : UInt8).toNat : Int) == 47) = true := rfl
    conv => arg 2; arg 1; whnf
    conv => arg 2; arg 2; arg 2; arg 1; whnf
    conv => arg 2; arg 2; arg 2; arg 2; arg 1; whnf
    conv => arg 2; arg 2; arg 2; arg 2; arg 2; arg 1; whnf
    conv => arg 2; arg 2; arg 2; arg 2; arg 2; arg 2; arg 1; whnf
    conv => arg 2; arg 2; arg 2; arg 2; arg 2; arg 2; arg 2; arg 1; arg 1; whnf
    go_wp2
    rename_i K0 hk0
    refine hK _ K0 hk0 ?_ rfl rfl
    exact ⟨rfl, rfl, rfl, rfl, rfl, rfl, rfl, rfl⟩


end Go.Proofs.Ytcobbbbnmepmfaa
