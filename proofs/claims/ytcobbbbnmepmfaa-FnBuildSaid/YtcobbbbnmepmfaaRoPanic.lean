/- addRoute's round: the wildcard's conflict: it panics. -/
import Derived.Test.YtcobbbbnmepmfaaRoSt
import Derived.Deep.RegionHeld3
namespace Go.Proofs.Ytcobbbbnmepmfaa
open Go Go.RowKit Go.Lib Tr

noncomputable def roP : Code := els (snd (snd (snd (snd (snd (thn (snd roA1)))))))
noncomputable def roP1 : Code := fst (snd roP)
noncomputable def roP39 : Code := fst (snd (snd roP))
noncomputable def roP40 : Code := snd (snd (snd roP))
noncomputable def roP32 : Code := fst roP

theorem roP_eq : roP = .seq roP32 (.seq roP1 (.seq roP39 roP40)) := by kernel_rfl

set_option maxHeartbeats 16000000 in
set_option maxRecDepth 100000 in
theorem ro_p1 {w : World} {cb m : Nat} {pth' full : ByteArray} (x2 x3 x4 x5 x7 x8 x9 x10 x11 x13 x15 x16 x17 x18 x19 x20 x21 x22 x23 x24 x25 x26 x27 x28 x29 x30 x31 x32 x33 x34 x35 x36 x37 x38 x39 x40 x41 x42 x43 x44 x45 x46 x47 x48 x49 x50 x51 x52 x53 x54 x55 x56 x57 x58 x59 x60 x61 x62 x63 x64 x65 x66 x67 x68 x69 x70 x71 x72 x73 x74 x75 x76 x77 x78 x79 x80 x81 x82 x83 x84 x85 x86 x87 x88 x89 x90 x91 x92 x93 x94 x95 x96 x97 x98 x99 x100 x101 x102 x103 x104 x105 x106 x107 x108 x109 x110 x111 x112 x113 x114 x115 x116 x117 x118 x119 x120 x121 x122 x123 x124 x125 x126 x127 x128 x129 x130 x131 x132 x133 x134 x135 x136 x137 x138 x139 x140 x141 x142 x143 x144 x145 x146 x147 x148 x149 x150 x151 x152 x153 x154 x155 x156 x157 x158 x159 x160 x161 x162 x163 x164 x165 x166 x167 x168 x169 x170 x171 x172 x173 x174 x175 x176 x177 x178 x179 x180 x181 x182 x183 x184 x185 x186 x187 x188 x189 x190 x191 x192 x193 x194 x195 x196 x197 x198 x199 x200 x201 x202 x203 x204 x205 x206 x207 x208 x209 x210 x211 x212 x213 x214 x215 x216 x217 x218 x219 x220 x221 x222 x223 x224 x225 x226 x227 x228 x229 x230 x231 x232 x233 x234 x235 x236 x237 x238 x239 x240 x241 x242 x243 x244 x245 x246 x247 x248 x249 x250 x251 x252 x253 x254 x255 x256 x257 x258 x259 x260 x261 x262 x263 x264 x265 x266 x267 x268 x269 x270 x271 x272 x273 x274 x275 x276 x277 x278 x279 x280 x281 x282 x283 x284 x285 x286 x287 x288 x289 x290 x291 x292 x293 x294 x295 x296 x297 x298 x299 x300 x301 x302 x303 x304 x305 x306 x307 x308 x309 x310 x311 x312 x313 x314 x315 x316 x317 x318 x319 x320 x321 x322 x323 x324 x325 x326 x327 x328 x329 x330 x331 x332 x333 x334 x335 x336 x337 x338 x339 x340 x341 x342 x343 x344 x345 x346 x347 x348 x349 x350 x351 x352 x353 x354 x355 x356 x357 x358 x359 x360 x361 x362 x363 x364 x365 x366 x367 x368 x369 x370 x371 x372 x373 x374 x375 x376 x377 x378 x379 x380 x381 x382 x383 x384 x385 x386 x387 x388 x389 x390 x391 x392 x393 x394 x395 x396 x397 x398 x399 x400 x401 x402 x403 x404 x405 x406 x407 x408 x409 x410 x411 x412 x413 x414 x415 x416 x417 x418 x419 x12 x14 : Value) (Y : Code) (hc2 : w.cell? ⟨cb, 2, none⟩ = some (.int .u8 (m : Int))) (hps : pth'.size ≤ 2147483647) (hsuf : Hid (∃ A, full.data.toList = A ++ pth'.data.toList)) {Q : Exit → Act → World → Prop} (hK : ∀ a' seg, (∃ A B, full.data.toList = A ++ (seg.data.toList ++ B)) → seg.size ≤ 2147483647 → (∃ v1 v2 v7 v8, Fr a' (.pointer (some ⟨cb, 0, none⟩)) v1 v2 (.string full) v7 v8) → a'.tmps.getD 12 undef = .string seg → Y.wp Try.prog Q a' w) :
    (Code.seq roP32 (.seq roP1 Y)).wp Try.prog Q ⟨#[.pointer (some ⟨cb, 0, none⟩), .string pth', x2, x3, x4, x5, .string full, x7, x8, x9, x10, x11, x12, x13, x14, x15, x16, x17, x18, x19, x20, x21, x22, x23, x24, x25, x26, x27, x28, x29, x30, x31, x32, x33, x34, x35, x36, x37, x38, x39, x40, x41, x42, x43, x44, x45, x46, x47, x48, x49, x50, x51, x52, x53, x54, x55, x56, x57, x58, x59, x60, x61, x62, x63, x64, x65, x66, x67, x68, x69, x70, x71, x72, x73, x74, x75, x76, x77, x78, x79, x80, x81, x82, x83, x84, x85, x86, x87, x88, x89, x90, x91, x92, x93, x94, x95, x96, x97, x98, x99, x100, x101, x102, x103, x104, x105, x106, x107, x108, x109, x110, x111, x112, x113, x114, x115, x116, x117, x118, x119, x120, x121, x122, x123, x124, x125, x126, x127, x128, x129, x130, x131, x132, x133, x134, x135, x136, x137, x138, x139, x140, x141, x142, x143, x144, x145, x146, x147, x148, x149, x150, x151, x152, x153, x154, x155, x156, x157, x158, x159, x160, x161, x162, x163, x164, x165, x166, x167, x168, x169, x170, x171, x172, x173, x174, x175, x176, x177, x178, x179, x180, x181, x182, x183, x184, x185, x186, x187, x188, x189, x190, x191, x192, x193, x194, x195, x196, x197, x198, x199, x200, x201, x202, x203, x204, x205, x206, x207, x208, x209, x210, x211, x212, x213, x214, x215, x216, x217, x218, x219, x220, x221, x222, x223, x224, x225, x226, x227, x228, x229, x230, x231, x232, x233, x234, x235, x236, x237, x238, x239, x240, x241, x242, x243, x244, x245, x246, x247, x248, x249, x250, x251, x252, x253, x254, x255, x256, x257, x258, x259, x260, x261, x262, x263, x264, x265, x266, x267, x268, x269, x270, x271, x272, x273, x274, x275, x276, x277, x278, x279, x280, x281, x282, x283, x284, x285, x286, x287, x288, x289, x290, x291, x292, x293, x294, x295, x296, x297, x298, x299, x300, x301, x302, x303, x304, x305, x306, x307, x308, x309, x310, x311, x312, x313, x314, x315, x316, x317, x318, x319, x320, x321, x322, x323, x324, x325, x326, x327, x328, x329, x330, x331, x332, x333, x334, x335, x336, x337, x338, x339, x340, x341, x342, x343, x344, x345, x346, x347, x348, x349, x350, x351, x352, x353, x354, x355, x356, x357, x358, x359, x360, x361, x362, x363, x364, x365, x366, x367, x368, x369, x370, x371, x372, x373, x374, x375, x376, x377, x378, x379, x380, x381, x382, x383, x384, x385, x386, x387, x388, x389, x390, x391, x392, x393, x394, x395, x396, x397, x398, x399, x400, x401, x402, x403, x404, x405, x406, x407, x408, x409, x410, x411, x412, x413, x414, x415, x416, x417, x418, x419], []⟩ w := by
  have HK := Lib.hid hK
  clear hK
  obtain ⟨z, hz⟩ : ∃ z, zzI pth' ⟨#[47]⟩ = z := ⟨_, rfl⟩
  have hcases := zzI_cases pth' ⟨#[47]⟩
  rw [hz] at hcases
  have HC : Hid (Calls Try.prog 40 #[.string pth', .string ⟨#[47]⟩] w (fun e w' => e = .returned (.int .i64 z) ∧ w = w')) := by
    have := zzI_any pth' ⟨#[47]⟩ w hps (by decide)
    rw [hz] at this
    exact this
  have hall : Hid (∃ A B, full.data.toList = A ++ (pth'.data.toList ++ B)) := by
    obtain ⟨A, hA⟩ := hsuf.out
    exact ⟨A, [], by rw [List.append_nil]; exact hA⟩
  clear hz
  by_cases hm : m = 3
  · subst hm
    have t1 : (((3 : Nat) : Int) == 3) = true := rfl
    conv => arg 2; arg 1; whnf
    conv => arg 2; arg 2; arg 1; whnf
    go_wp2
    refine HK.out _ pth' hall.out hps ⟨.string pth', x2, x7, x8, ?_⟩ rfl
    exact ⟨rfl, rfl, rfl, rfl, rfl, rfl, rfl, rfl⟩
  have t1 : ((m : Int) == 3) = false := by simpa using fun e : (m : Int) = 3 => hm (by omega)
  clear hm
  rcases hcases with rfl | ⟨h1, h2⟩
  · have t2 : ¬ (0 : Int) ≤ -1 := by decide
    conv => arg 2; arg 1; whnf
    conv => arg 2; arg 2; arg 1; whnf
    go_wp2_with (go_at_call 40; refine HC.out.mono ?_; rintro e w' ⟨rfl, rfl⟩)
    refine HK.out _ pth' hall.out hps ⟨.string pth', x2, x7, x8, ?_⟩ rfl
    exact ⟨rfl, rfl, rfl, rfl, rfl, rfl, rfl, rfl⟩
  · obtain ⟨i, rfl⟩ : ∃ i : Nat, z = (i : Int) := ⟨z.toNat, by omega⟩
    have hi : i ≤ pth'.size := by
      have : (⟨#[47]⟩ : ByteArray).size = 1 := rfl
      omega
    have t2 : (0 : Int) ≤ (i : Int) := by omega
    have t3 : (i : Int) ≤ (pth'.size : Int) := by omega
    have hseg : Hid ((∃ A B, full.data.toList = A ++ ((pth'.extract 0 i).data.toList ++ B)) ∧ (pth'.extract 0 i).size ≤ 2147483647) := by
      obtain ⟨A, hA⟩ := hsuf.out
      refine ⟨⟨A, pth'.data.toList.drop i, ?_⟩, by rw [ByteArray.size_extract]; omega⟩
      rw [Lib.extract_data, List.drop_zero, Nat.sub_zero, List.take_append_drop]; exact hA
    clear h2 h1
    conv => arg 2; arg 1; whnf
    conv => arg 2; arg 2; arg 1; whnf
    go_wp2_with (go_at_call 40; refine HC.out.mono ?_; rintro e w' ⟨rfl, rfl⟩)
    refine HK.out _ (pth'.extract 0 i) hseg.out.1 hseg.out.2 ⟨.string pth', x2, x7, x8, ?_⟩ rfl
    exact ⟨rfl, rfl, rfl, rfl, rfl, rfl, rfl, rfl⟩

set_option maxHeartbeats 16000000 in
set_option maxRecDepth 100000 in
theorem ro_p39 {w : World} {cb : Nat} {full seg cp : ByteArray} (x1 x2 x3 x4 x5 x7 x8 x9 x10 x11 x13 x14 x15 x16 x17 x18 x19 x20 x21 x22 x23 x24 x25 x26 x27 x28 x29 x30 x31 x32 x33 x34 x35 x36 x37 x38 x39 x40 x41 x42 x43 x44 x45 x46 x47 x48 x49 x50 x51 x52 x53 x54 x55 x56 x57 x58 x59 x60 x61 x62 x63 x64 x65 x66 x67 x68 x69 x70 x71 x72 x73 x74 x75 x76 x77 x78 x79 x80 x81 x82 x83 x84 x85 x86 x87 x88 x89 x90 x91 x92 x93 x94 x95 x96 x97 x98 x99 x100 x101 x102 x103 x104 x105 x106 x107 x108 x109 x110 x111 x112 x113 x114 x115 x116 x117 x118 x119 x120 x121 x122 x123 x124 x125 x126 x127 x128 x129 x130 x131 x132 x133 x134 x135 x136 x137 x138 x139 x140 x141 x142 x143 x144 x145 x146 x147 x148 x149 x150 x151 x152 x153 x154 x155 x156 x157 x158 x159 x160 x161 x162 x163 x164 x165 x166 x167 x168 x169 x170 x171 x172 x173 x174 x175 x176 x177 x178 x179 x180 x181 x182 x183 x184 x185 x186 x187 x188 x189 x190 x191 x192 x193 x194 x195 x196 x197 x198 x199 x200 x201 x202 x203 x204 x205 x206 x207 x208 x209 x210 x211 x212 x213 x214 x215 x216 x217 x218 x219 x220 x221 x222 x223 x224 x225 x226 x227 x228 x229 x230 x231 x232 x233 x234 x235 x236 x237 x238 x239 x240 x241 x242 x243 x244 x245 x246 x247 x248 x249 x250 x251 x252 x253 x254 x255 x256 x257 x258 x259 x260 x261 x262 x263 x264 x265 x266 x267 x268 x269 x270 x271 x272 x273 x274 x275 x276 x277 x278 x279 x280 x281 x282 x283 x284 x285 x286 x287 x288 x289 x290 x291 x292 x293 x294 x295 x296 x297 x298 x299 x300 x301 x302 x303 x304 x305 x306 x307 x308 x309 x310 x311 x312 x313 x314 x315 x316 x317 x318 x319 x320 x321 x322 x323 x324 x325 x326 x327 x328 x329 x330 x331 x332 x333 x334 x335 x336 x337 x338 x339 x340 x341 x342 x343 x344 x345 x346 x347 x348 x349 x350 x351 x352 x353 x354 x355 x356 x357 x358 x359 x360 x361 x362 x363 x364 x365 x366 x367 x368 x369 x370 x371 x372 x373 x374 x375 x376 x377 x378 x379 x380 x381 x382 x383 x384 x385 x386 x387 x388 x389 x390 x391 x392 x393 x394 x395 x396 x397 x398 x399 x400 x401 x402 x403 x404 x405 x406 x407 x408 x409 x410 x411 x412 x413 x414 x415 x416 x417 x418 x419 : Value) (hc0 : w.cell? ⟨cb, 0, none⟩ = some (.string cp)) (hcp : cp.size ≤ 2147483647) (hfl : full.size ≤ 2147483647) (hsl : seg.size ≤ 2147483647) (hsuf : Hid (∃ A B, full.data.toList = A ++ (seg.data.toList ++ B))) {K : Act → World → Prop} {Q : Exit → Act → World → Prop} (hK : ∀ a' q pref, pref.size ≤ 4294967294 → (∃ v1 v2 v7 v8, Fr a' (.pointer (some ⟨cb, 0, none⟩)) v1 v2 (.string full) v7 v8) → a'.tmps.getD 12 undef = .string seg → a'.tmps.getD 14 undef = .string pref → K a' (w.drewN q)) :
    roP39.wp Try.prog (Exit.then K Q) ⟨#[.pointer (some ⟨cb, 0, none⟩), x1, x2, x3, x4, x5, .string full, x7, x8, x9, x10, x11, .string seg, x13, x14, x15, x16, x17, x18, x19, x20, x21, x22, x23, x24, x25, x26, x27, x28, x29, x30, x31, x32, x33, x34, x35, x36, x37, x38, x39, x40, x41, x42, x43, x44, x45, x46, x47, x48, x49, x50, x51, x52, x53, x54, x55, x56, x57, x58, x59, x60, x61, x62, x63, x64, x65, x66, x67, x68, x69, x70, x71, x72, x73, x74, x75, x76, x77, x78, x79, x80, x81, x82, x83, x84, x85, x86, x87, x88, x89, x90, x91, x92, x93, x94, x95, x96, x97, x98, x99, x100, x101, x102, x103, x104, x105, x106, x107, x108, x109, x110, x111, x112, x113, x114, x115, x116, x117, x118, x119, x120, x121, x122, x123, x124, x125, x126, x127, x128, x129, x130, x131, x132, x133, x134, x135, x136, x137, x138, x139, x140, x141, x142, x143, x144, x145, x146, x147, x148, x149, x150, x151, x152, x153, x154, x155, x156, x157, x158, x159, x160, x161, x162, x163, x164, x165, x166, x167, x168, x169, x170, x171, x172, x173, x174, x175, x176, x177, x178, x179, x180, x181, x182, x183, x184, x185, x186, x187, x188, x189, x190, x191, x192, x193, x194, x195, x196, x197, x198, x199, x200, x201, x202, x203, x204, x205, x206, x207, x208, x209, x210, x211, x212, x213, x214, x215, x216, x217, x218, x219, x220, x221, x222, x223, x224, x225, x226, x227, x228, x229, x230, x231, x232, x233, x234, x235, x236, x237, x238, x239, x240, x241, x242, x243, x244, x245, x246, x247, x248, x249, x250, x251, x252, x253, x254, x255, x256, x257, x258, x259, x260, x261, x262, x263, x264, x265, x266, x267, x268, x269, x270, x271, x272, x273, x274, x275, x276, x277, x278, x279, x280, x281, x282, x283, x284, x285, x286, x287, x288, x289, x290, x291, x292, x293, x294, x295, x296, x297, x298, x299, x300, x301, x302, x303, x304, x305, x306, x307, x308, x309, x310, x311, x312, x313, x314, x315, x316, x317, x318, x319, x320, x321, x322, x323, x324, x325, x326, x327, x328, x329, x330, x331, x332, x333, x334, x335, x336, x337, x338, x339, x340, x341, x342, x343, x344, x345, x346, x347, x348, x349, x350, x351, x352, x353, x354, x355, x356, x357, x358, x359, x360, x361, x362, x363, x364, x365, x366, x367, x368, x369, x370, x371, x372, x373, x374, x375, x376, x377, x378, x379, x380, x381, x382, x383, x384, x385, x386, x387, x388, x389, x390, x391, x392, x393, x394, x395, x396, x397, x398, x399, x400, x401, x402, x403, x404, x405, x406, x407, x408, x409, x410, x411, x412, x413, x414, x415, x416, x417, x418, x419], []⟩ w := by
  conv => arg 2; whnf
  have HK := Lib.hid hK
  clear hK
  have hne : zzI full seg ≠ -1 := by
    obtain ⟨A, B, h⟩ := hsuf.out
    exact zzI_found full seg A B h
  obtain ⟨i, hz, hi⟩ : ∃ i : Nat, zzI full seg = (i : Int) ∧ i ≤ full.size := by
    rcases zzI_cases full seg with h | ⟨h1, h2⟩
    · exact absurd h hne
    · exact ⟨(zzI full seg).toNat, by omega, by omega⟩
  have HC : ∀ w, Hid (Calls Try.prog 40 #[.string full, .string seg] w (fun e w' => e = .returned (.int .i64 (i : Int)) ∧ w = w')) := by
    intro w
    have := zzI_any full seg w hfl hsl
    rw [hz] at this
    exact this
  have HCQ : ∀ q : Nat, Hid (Calls Try.prog 40 #[.string full, .string seg] (w.drewN q) (fun e w'' => e = .returned (.int .i64 (i : Int)) ∧ ∃ m, w'' = w.drewN m)) := fun q => Calls.quiet_of_same ((HC _).out.mono (by rintro e w' ⟨rfl, rfl⟩; exact ⟨rfl, rfl⟩))
  have t2 : (0 : Int) ≤ (i : Int) := by omega
  have t3 : (i : Int) ≤ (full.size : Int) := by omega
  obtain ⟨pre, hpre⟩ : ∃ pre, full.extract 0 i = pre := ⟨_, rfl⟩
  have hpz : pre.size ≤ 2147483647 := by rw [← hpre, ByteArray.size_extract]; omega
  have hpc : (pre ++ cp).size ≤ 4294967294 := by rw [ByteArray.size_append]; omega
  have hml : (4294967294 : Nat) ≤ maxLen := by decide
  have hpm : pre.size + cp.size ≤ maxLen := by omega
  clear hne hz
  go_wp2_with fail
  go_quiet (exact (HCQ _).out)
  go_wp2
  refine HK.out _ _ (pre ++ cp) hpc ⟨x1, x2, x7, x8, ?_⟩ rfl rfl
  all_goals exact ⟨rfl, rfl, rfl, rfl, rfl, rfl, rfl, rfl⟩

set_option maxHeartbeats 16000000 in
set_option maxRecDepth 100000 in
theorem ro_p40 {w : World} {cb : Nat} {full seg cp pref : ByteArray} (x1 x2 x3 x4 x5 x7 x8 x9 x10 x11 x13 x15 x16 x17 x18 x19 x20 x21 x22 x23 x24 x25 x26 x27 x28 x29 x30 x31 x32 x33 x34 x35 x36 x37 x38 x39 x40 x41 x42 x43 x44 x45 x46 x47 x48 x49 x50 x51 x52 x53 x54 x55 x56 x57 x58 x59 x60 x61 x62 x63 x64 x65 x66 x67 x68 x69 x70 x71 x72 x73 x74 x75 x76 x77 x78 x79 x80 x81 x82 x83 x84 x85 x86 x87 x88 x89 x90 x91 x92 x93 x94 x95 x96 x97 x98 x99 x100 x101 x102 x103 x104 x105 x106 x107 x108 x109 x110 x111 x112 x113 x114 x115 x116 x117 x118 x119 x120 x121 x122 x123 x124 x125 x126 x127 x128 x129 x130 x131 x132 x133 x134 x135 x136 x137 x138 x139 x140 x141 x142 x143 x144 x145 x146 x147 x148 x149 x150 x151 x152 x153 x154 x155 x156 x157 x158 x159 x160 x161 x162 x163 x164 x165 x166 x167 x168 x169 x170 x171 x172 x173 x174 x175 x176 x177 x178 x179 x180 x181 x182 x183 x184 x185 x186 x187 x188 x189 x190 x191 x192 x193 x194 x195 x196 x197 x198 x199 x200 x201 x202 x203 x204 x205 x206 x207 x208 x209 x210 x211 x212 x213 x214 x215 x216 x217 x218 x219 x220 x221 x222 x223 x224 x225 x226 x227 x228 x229 x230 x231 x232 x233 x234 x235 x236 x237 x238 x239 x240 x241 x242 x243 x244 x245 x246 x247 x248 x249 x250 x251 x252 x253 x254 x255 x256 x257 x258 x259 x260 x261 x262 x263 x264 x265 x266 x267 x268 x269 x270 x271 x272 x273 x274 x275 x276 x277 x278 x279 x280 x281 x282 x283 x284 x285 x286 x287 x288 x289 x290 x291 x292 x293 x294 x295 x296 x297 x298 x299 x300 x301 x302 x303 x304 x305 x306 x307 x308 x309 x310 x311 x312 x313 x314 x315 x316 x317 x318 x319 x320 x321 x322 x323 x324 x325 x326 x327 x328 x329 x330 x331 x332 x333 x334 x335 x336 x337 x338 x339 x340 x341 x342 x343 x344 x345 x346 x347 x348 x349 x350 x351 x352 x353 x354 x355 x356 x357 x358 x359 x360 x361 x362 x363 x364 x365 x366 x367 x368 x369 x370 x371 x372 x373 x374 x375 x376 x377 x378 x379 x380 x381 x382 x383 x384 x385 x386 x387 x388 x389 x390 x391 x392 x393 x394 x395 x396 x397 x398 x399 x400 x401 x402 x403 x404 x405 x406 x407 x408 x409 x410 x411 x412 x413 x414 x415 x416 x417 x418 x419 : Value) (hc0 : w.cell? ⟨cb, 0, none⟩ = some (.string cp)) (hcp : cp.size ≤ 2147483647) (hfl : full.size ≤ 2147483647) (hsl : seg.size ≤ 2147483647) (hpf : pref.size ≤ 4294967294) {Q : Exit → Act → World → Prop} (hQ : ∀ a' t v, a'.defers = [] → Q (.panic [{ v := .iface t v, recovered := false }]) a' w) :
    roP40.wp Try.prog Q ⟨#[.pointer (some ⟨cb, 0, none⟩), x1, x2, x3, x4, x5, .string full, x7, x8, x9, x10, x11, .string seg, x13, .string pref, x15, x16, x17, x18, x19, x20, x21, x22, x23, x24, x25, x26, x27, x28, x29, x30, x31, x32, x33, x34, x35, x36, x37, x38, x39, x40, x41, x42, x43, x44, x45, x46, x47, x48, x49, x50, x51, x52, x53, x54, x55, x56, x57, x58, x59, x60, x61, x62, x63, x64, x65, x66, x67, x68, x69, x70, x71, x72, x73, x74, x75, x76, x77, x78, x79, x80, x81, x82, x83, x84, x85, x86, x87, x88, x89, x90, x91, x92, x93, x94, x95, x96, x97, x98, x99, x100, x101, x102, x103, x104, x105, x106, x107, x108, x109, x110, x111, x112, x113, x114, x115, x116, x117, x118, x119, x120, x121, x122, x123, x124, x125, x126, x127, x128, x129, x130, x131, x132, x133, x134, x135, x136, x137, x138, x139, x140, x141, x142, x143, x144, x145, x146, x147, x148, x149, x150, x151, x152, x153, x154, x155, x156, x157, x158, x159, x160, x161, x162, x163, x164, x165, x166, x167, x168, x169, x170, x171, x172, x173, x174, x175, x176, x177, x178, x179, x180, x181, x182, x183, x184, x185, x186, x187, x188, x189, x190, x191, x192, x193, x194, x195, x196, x197, x198, x199, x200, x201, x202, x203, x204, x205, x206, x207, x208, x209, x210, x211, x212, x213, x214, x215, x216, x217, x218, x219, x220, x221, x222, x223, x224, x225, x226, x227, x228, x229, x230, x231, x232, x233, x234, x235, x236, x237, x238, x239, x240, x241, x242, x243, x244, x245, x246, x247, x248, x249, x250, x251, x252, x253, x254, x255, x256, x257, x258, x259, x260, x261, x262, x263, x264, x265, x266, x267, x268, x269, x270, x271, x272, x273, x274, x275, x276, x277, x278, x279, x280, x281, x282, x283, x284, x285, x286, x287, x288, x289, x290, x291, x292, x293, x294, x295, x296, x297, x298, x299, x300, x301, x302, x303, x304, x305, x306, x307, x308, x309, x310, x311, x312, x313, x314, x315, x316, x317, x318, x319, x320, x321, x322, x323, x324, x325, x326, x327, x328, x329, x330, x331, x332, x333, x334, x335, x336, x337, x338, x339, x340, x341, x342, x343, x344, x345, x346, x347, x348, x349, x350, x351, x352, x353, x354, x355, x356, x357, x358, x359, x360, x361, x362, x363, x364, x365, x366, x367, x368, x369, x370, x371, x372, x373, x374, x375, x376, x377, x378, x379, x380, x381, x382, x383, x384, x385, x386, x387, x388, x389, x390, x391, x392, x393, x394, x395, x396, x397, x398, x399, x400, x401, x402, x403, x404, x405, x406, x407, x408, x409, x410, x411, x412, x413, x414, x415, x416, x417, x418, x419], []⟩ w := by
  conv => arg 2; whnf
  go_wp2
  rfl


end Go.Proofs.Ytcobbbbnmepmfaa
