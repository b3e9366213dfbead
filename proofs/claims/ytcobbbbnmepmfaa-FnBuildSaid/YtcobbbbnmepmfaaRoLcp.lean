/- addRoute's round: how far the path and the node's go together. -/
import Derived.Test.YtcobbbbnmepmfaaRoBody
import Derived.Deep.QuietTactic
import Derived.BigQuiet
namespace Go.Proofs.Ytcobbbbnmepmfaa
open Go Go.RowKit Go.Lib Tr

set_option maxHeartbeats 16000000 in
set_option maxRecDepth 100000 in
theorem ro_lcp {w0 w : World} {T0 : HT} {tag : Tag} {b : Nat} {d : Dec} {p : ByteArray} {h : Option Nat} {kids : List HT} {s0 s : List Tok} {n np : Nat} {full pth : ByteArray} (x3 x4 x5 x8 x9 x10 x11 x12 x13 x14 x15 x16 x17 x18 x19 x20 x21 x22 x23 x24 x25 x26 x27 x28 x29 x30 x31 x32 x33 x34 x35 x36 x37 x38 x39 x40 x41 x42 x43 x44 x45 x46 x47 x48 x49 x50 x51 x52 x53 x54 x55 x56 x57 x58 x59 x60 x61 x62 x63 x64 x65 x66 x67 x68 x69 x70 x71 x72 x73 x74 x75 x76 x77 x78 x79 x80 x81 x82 x83 x84 x85 x86 x87 x88 x89 x90 x91 x92 x93 x94 x95 x96 x97 x98 x99 x100 x101 x102 x103 x104 x105 x106 x107 x108 x109 x110 x111 x112 x113 x114 x115 x116 x117 x118 x119 x120 x121 x122 x123 x124 x125 x126 x127 x128 x129 x130 x131 x132 x133 x134 x135 x136 x137 x138 x139 x140 x141 x142 x143 x144 x145 x146 x147 x148 x149 x150 x151 x152 x153 x154 x155 x156 x157 x158 x159 x160 x161 x162 x163 x164 x165 x166 x167 x168 x169 x170 x171 x172 x173 x174 x175 x176 x177 x178 x179 x180 x181 x182 x183 x184 x185 x186 x187 x188 x189 x190 x191 x192 x193 x194 x195 x196 x197 x198 x199 x200 x201 x202 x203 x204 x205 x206 x207 x208 x209 x210 x211 x212 x213 x214 x215 x216 x217 x218 x219 x220 x221 x222 x223 x224 x225 x226 x227 x228 x229 x230 x231 x232 x233 x234 x235 x236 x237 x238 x239 x240 x241 x242 x243 x244 x245 x246 x247 x248 x249 x250 x251 x252 x253 x254 x255 x256 x257 x258 x259 x260 x261 x262 x263 x264 x265 x266 x267 x268 x269 x270 x271 x272 x273 x274 x275 x276 x277 x278 x279 x280 x281 x282 x283 x284 x285 x286 x287 x288 x289 x290 x291 x292 x293 x294 x295 x296 x297 x298 x299 x300 x301 x302 x303 x304 x305 x306 x307 x308 x309 x310 x311 x312 x313 x314 x315 x316 x317 x318 x319 x320 x321 x322 x323 x324 x325 x326 x327 x328 x329 x330 x331 x332 x333 x334 x335 x336 x337 x338 x339 x340 x341 x342 x343 x344 x345 x346 x347 x348 x349 x350 x351 x352 x353 x354 x355 x356 x357 x358 x359 x360 x361 x362 x363 x364 x365 x366 x367 x368 x369 x370 x371 x372 x373 x374 x375 x376 x377 x378 x379 x380 x381 x382 x383 x384 x385 x386 x387 x388 x389 x390 x391 x392 x393 x394 x395 x396 x397 x398 x399 x400 x401 x402 x403 x404 x405 x406 x407 x408 x409 x410 x411 x412 x413 x414 x415 x416 x417 x418 x419 : Value) (hps : pth.size ≤ 2147483647) (hnp : np ≤ 20) (HA : Hid (AddAt w0 T0 s0 n full pth (.mk tag b d p h kids) s np w)) {Q : Exit → Act → World → Prop} (hC : ∀ a' w', (∃ i : Nat, LoopAt w0 T0 s0 n full pth tag b p h kids s np (.int .i64 (i : Int)) a' w' ∧ Lcp p pth i) → (snd (snd (snd roB))).wp Try.prog Q a' w') :
    roB.wp Try.prog Q ⟨#[.pointer (some ⟨b, 0, none⟩), .string pth, .iface 3 (.int .i64 (n : Int)), x3, x4, x5, .string full, .int .u8 (np : Int), x8, x9, x10, x11, x12, x13, x14, x15, x16, x17, x18, x19, x20, x21, x22, x23, x24, x25, x26, x27, x28, x29, x30, x31, x32, x33, x34, x35, x36, x37, x38, x39, x40, x41, x42, x43, x44, x45, x46, x47, x48, x49, x50, x51, x52, x53, x54, x55, x56, x57, x58, x59, x60, x61, x62, x63, x64, x65, x66, x67, x68, x69, x70, x71, x72, x73, x74, x75, x76, x77, x78, x79, x80, x81, x82, x83, x84, x85, x86, x87, x88, x89, x90, x91, x92, x93, x94, x95, x96, x97, x98, x99, x100, x101, x102, x103, x104, x105, x106, x107, x108, x109, x110, x111, x112, x113, x114, x115, x116, x117, x118, x119, x120, x121, x122, x123, x124, x125, x126, x127, x128, x129, x130, x131, x132, x133, x134, x135, x136, x137, x138, x139, x140, x141, x142, x143, x144, x145, x146, x147, x148, x149, x150, x151, x152, x153, x154, x155, x156, x157, x158, x159, x160, x161, x162, x163, x164, x165, x166, x167, x168, x169, x170, x171, x172, x173, x174, x175, x176, x177, x178, x179, x180, x181, x182, x183, x184, x185, x186, x187, x188, x189, x190, x191, x192, x193, x194, x195, x196, x197, x198, x199, x200, x201, x202, x203, x204, x205, x206, x207, x208, x209, x210, x211, x212, x213, x214, x215, x216, x217, x218, x219, x220, x221, x222, x223, x224, x225, x226, x227, x228, x229, x230, x231, x232, x233, x234, x235, x236, x237, x238, x239, x240, x241, x242, x243, x244, x245, x246, x247, x248, x249, x250, x251, x252, x253, x254, x255, x256, x257, x258, x259, x260, x261, x262, x263, x264, x265, x266, x267, x268, x269, x270, x271, x272, x273, x274, x275, x276, x277, x278, x279, x280, x281, x282, x283, x284, x285, x286, x287, x288, x289, x290, x291, x292, x293, x294, x295, x296, x297, x298, x299, x300, x301, x302, x303, x304, x305, x306, x307, x308, x309, x310, x311, x312, x313, x314, x315, x316, x317, x318, x319, x320, x321, x322, x323, x324, x325, x326, x327, x328, x329, x330, x331, x332, x333, x334, x335, x336, x337, x338, x339, x340, x341, x342, x343, x344, x345, x346, x347, x348, x349, x350, x351, x352, x353, x354, x355, x356, x357, x358, x359, x360, x361, x362, x363, x364, x365, x366, x367, x368, x369, x370, x371, x372, x373, x374, x375, x376, x377, x378, x379, x380, x381, x382, x383, x384, x385, x386, x387, x388, x389, x390, x391, x392, x393, x394, x395, x396, x397, x398, x399, x400, x401, x402, x403, x404, x405, x406, x407, x408, x409, x410, x411, x412, x413, x414, x415, x416, x417, x418, x419], []⟩ w := by
  conv => arg 2; whnf
  have hc0 : w.cell? ⟨b, 0, none⟩ = some (.string p) := HA.out.rep.c0
  obtain ⟨m, hm, hm1, hm2, hm3⟩ : ∃ m : Nat, minI pth.size p.size = (m : Int) ∧ m ≤ pth.size ∧ m ≤ p.size ∧ (m = pth.size ∨ m = p.size) := by
    unfold minI
    split
    · exact ⟨pth.size, rfl, by omega, by omega, .inl rfl⟩
    · exact ⟨p.size, rfl, by omega, by omega, .inr rfl⟩
  have HM : Hid (m = pth.size ∨ m = p.size) := hm3
  clear hm3
  go_upto_block 2 with (go_at_call 39; refine (min_any _ _ _).mono ?_; rintro e w' ⟨rfl, rfl⟩; rw [hm])
  rename_i K0 hk0
  have hk : ∀ a' w', (∃ i : Nat, LoopAt w0 T0 s0 n full pth tag b p h kids s np (.int .i64 (i : Int)) a' w' ∧ Lcp p pth i) → K0 a' w' := fun a' w' h => hk0 a' w' (hC a' w' h)
  clear hC hm hk0
  have hend : ∀ (i : Nat) (q : Nat) (a' : Act), i ≤ m → (∀ j, j < i → p.data.toList[j]? = pth.data.toList[j]?) → (i = m ∨ p.data.toList[i]? ≠ pth.data.toList[i]?) → Fr a' (.pointer (some ⟨b, 0, none⟩)) (.string pth) (.iface 3 (.int .i64 (n : Int))) (.string full) (.int .u8 (np : Int)) (.int .i64 (i : Int)) → ∃ i : Nat, LoopAt w0 T0 s0 n full pth tag b p h kids s np (.int .i64 (i : Int)) a' (w.drewN q) ∧ Lcp p pth i := by
    intro i q a' hi heq hst hfr
    refine ⟨i, ⟨hfr, hps, hnp, d, HA.out.drewN q⟩, by omega, by omega, heq, ?_⟩
    rcases hst with rfl | h
    · rcases HM.out with h | h
      · exact .inr (.inl h)
      · exact .inl h
    · exact .inr (.inr h)
  have HEND := Lib.hid hend
  clear hend
  go_wp2_with fail
  go_loopg [8] m (fun k v8 wr => ∃ (i : Nat) (q : Nat), v8 = .int .i64 (i : Int) ∧ i ≤ m ∧ Hid (k = m - i) ∧ Hid (∀ j, j < i → p.data.toList[j]? = pth.data.toList[j]?) ∧ wr = w.drewN q)
  case atStart => exact ⟨0, 0, rfl, by omega, (by show _ = _; omega), (fun j hj => by omega), rfl⟩
  case round =>
    obtain ⟨i, q, rfl, hi, HK, HEQ, rfl⟩ := hrel
    have hc0q : (w.drewN q).cell? ⟨b, 0, none⟩ = some (.string p) := hc0
    by_cases hlt : i < m
    · have tlt : (i : Int) < (m : Int) := by omega
      have tp : (i : Int) < (p.size : Int) := by omega
      have tq : (i : Int) < (pth.size : Int) := by omega
      have np0 : i < p.size := by omega
      have nq0 : i < pth.size := by omega
      have gp : p.data.toList[i]? = some (p[i]'np0) := by rw [List.getElem?_eq_getElem (by simpa using np0)]; simp; rfl
      have gq : pth.data.toList[i]? = some (pth[i]'nq0) := by rw [List.getElem?_eq_getElem (by simpa using nq0)]; simp; rfl
      by_cases he : pth[i]'nq0 = p[i]'np0
      · have te : (((pth[i]'nq0).toNat : Int) == ((p[i]'np0).toNat : Int)) = true := by rw [he]; simp
        have HEQ2 : Hid (∀ j, j < i + 1 → p.data.toList[j]? = pth.data.toList[j]?) := by
          intro j hj
          by_cases e : j = i
          · subst e; rw [gp, gq, he]
          · exact HEQ.out j (by omega)
        clear gp gq he
        go_wp2_with fail
        go_quiet (fail)
        go_wp2
        go_roundg (m - (i + 1))
        case measure => rw [HK.out]; omega
        case rel => exact ⟨i + 1, q + nq, by go_num, by omega, rfl, HEQ2, rfl⟩
      · have te : (((pth[i]'nq0).toNat : Int) == ((p[i]'np0).toNat : Int)) = false := by rw [beq_u8]; simpa using he
        have HST : Hid (i = m ∨ p.data.toList[i]? ≠ pth.data.toList[i]?) := .inr (by rw [gp, gq]; intro e; exact he (Option.some.inj e).symm)
        clear gp gq he
        go_wp2_with fail
        go_quiet (fail)
        go_wp2_with fail
        try simp only [World.drewN_drewN]
        refine HEND.out i _ _ hi HEQ.out HST.out ?_
        exact ⟨rfl, rfl, rfl, rfl, rfl, rfl, rfl, rfl⟩
    · have tlt : decide ((i : Int) < (m : Int)) = false := by simpa using hlt
      have tltn : decide (i < m) = false := by simpa using hlt
      have HST : Hid (i = m ∨ p.data.toList[i]? ≠ pth.data.toList[i]?) := .inl (by omega)
      clear hlt
      go_wp2_with fail
      go_quiet (fail)
      go_wp2_with fail
      try simp only [World.drewN_drewN]
      refine HEND.out i _ _ hi HEQ.out HST.out ?_
      exact ⟨rfl, rfl, rfl, rfl, rfl, rfl, rfl, rfl⟩

end Go.Proofs.Ytcobbbbnmepmfaa
