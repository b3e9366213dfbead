/- addRoute's round: the search for the child. -/
import Derived.Test.YtcobbbbnmepmfaaRoNext
import Derived.Deep.QuietTactic
import Derived.BigQuiet
namespace Go.Proofs.Ytcobbbbnmepmfaa
open Go Go.RowKit Go.Lib Tr

/-- what follows the wildcards' test: the first byte, the parameter's slash, the search, a new child -/
noncomputable def roX2 : Code := snd (snd (thn (snd roD)))
noncomputable def roX4 : Code := snd (snd roX2)
/-- the search -/
noncomputable def roS : Code := snd (fst roX4)
/-- a new child -/
noncomputable def roX5 : Code := snd roX4

set_option maxHeartbeats 16000000 in
set_option maxRecDepth 100000 in
theorem ro_found {w0 w : World} {T0 : HT} {b : Nat} {d : Dec} {p : ByteArray} {h : Option Nat} {A B : List HT} {k0 : HT} {s0 s s' : List Tok} {n np : Nat} {full pth pth' : ByteArray} {c : UInt8} {k : Nat} (x3 x4 x5 x8 x9 x10 x11 x12 x13 x14 x17 x18 x19 x20 x21 x22 x23 x24 x25 x26 x27 x28 x29 x30 x31 x32 x33 x34 x35 x36 x37 x38 x39 x40 x41 x42 x43 x44 x45 x46 x47 x48 x49 x50 x51 x52 x53 x54 x55 x56 x57 x58 x59 x60 x61 x62 x63 x64 x65 x66 x67 x68 x69 x70 x71 x72 x73 x74 x75 x76 x77 x78 x79 x80 x81 x82 x83 x84 x85 x86 x87 x88 x89 x90 x91 x92 x93 x94 x95 x96 x97 x98 x99 x100 x101 x102 x103 x104 x105 x106 x107 x108 x109 x110 x111 x112 x113 x114 x115 x116 x117 x118 x119 x120 x121 x122 x123 x124 x125 x126 x127 x128 x129 x130 x131 x132 x133 x134 x135 x136 x137 x138 x139 x140 x141 x142 x143 x144 x145 x146 x147 x148 x149 x150 x151 x152 x153 x154 x155 x156 x157 x158 x159 x160 x161 x162 x163 x164 x165 x166 x167 x168 x169 x170 x171 x172 x173 x174 x175 x176 x177 x178 x179 x180 x181 x182 x183 x184 x185 x186 x187 x188 x189 x190 x191 x192 x193 x194 x195 x196 x197 x198 x199 x200 x201 x202 x203 x204 x205 x206 x207 x208 x209 x210 x211 x212 x213 x214 x215 x216 x217 x218 x219 x220 x221 x222 x223 x224 x225 x226 x227 x228 x229 x230 x231 x232 x233 x234 x235 x236 x237 x238 x239 x240 x241 x242 x243 x244 x245 x246 x247 x248 x249 x250 x251 x252 x253 x254 x255 x256 x257 x258 x259 x260 x261 x262 x263 x264 x265 x266 x267 x268 x269 x270 x271 x272 x273 x274 x275 x276 x277 x278 x279 x280 x281 x282 x283 x284 x285 x286 x287 x288 x289 x290 x291 x292 x293 x294 x295 x296 x297 x298 x299 x300 x301 x302 x303 x304 x305 x306 x307 x308 x309 x310 x311 x312 x313 x314 x315 x316 x317 x318 x319 x320 x321 x322 x323 x324 x325 x326 x327 x328 x329 x330 x331 x332 x333 x334 x335 x336 x337 x338 x339 x340 x341 x342 x343 x344 x345 x346 x347 x348 x349 x350 x351 x352 x353 x354 x355 x356 x357 x358 x359 x360 x361 x362 x363 x364 x365 x366 x367 x368 x369 x370 x371 x372 x373 x374 x375 x376 x377 x378 x379 x380 x381 x382 x383 x384 x385 x386 x387 x388 x389 x390 x391 x392 x393 x394 x395 x396 x397 x398 x399 x400 x401 x402 x403 x404 x405 x406 x407 x408 x409 x410 x411 x412 x413 x414 x415 x416 x417 x418 x419 : Value) (hps : pth.size ≤ 2147483647) (hnp : np ≤ 20) (HA : Hid (AddAt w0 T0 s0 n full pth (.mk .st b d p h (A ++ k0 :: B)) s np w)) (hs : s = toks .st p.data.toList ++ s') (hrest : pth'.data.toList = enc s') (hpz : pth'.size + p.size = pth.size)
    (hsuf : ∃ A, full.data.toList = A ++ pth'.data.toList) (hrk : rk pth .st ≤ k) (hkey : sKey s' = some c) (hk : key k0 = c) (hlen : (A ++ k0 :: B).length ≤ 2147483647) {K : Act → World → Prop} :
    roS.wp Try.prog (Exit.then K (RoQ w0 T0 s0 n full k)) ⟨#[.pointer (some ⟨b, 0, none⟩), .string pth', .iface 3 (.int .i64 (n : Int)), x3, x4, x5, .string full, .int .u8 (np : Int), x8, x9, x10, x11, x12, x13, x14, .int .u8 (c.toNat : Int), .int .i64 0, x17, x18, x19, x20, x21, x22, x23, x24, x25, x26, x27, x28, x29, x30, x31, x32, x33, x34, x35, x36, x37, x38, x39, x40, x41, x42, x43, x44, x45, x46, x47, x48, x49, x50, x51, x52, x53, x54, x55, x56, x57, x58, x59, x60, x61, x62, x63, x64, x65, x66, x67, x68, x69, x70, x71, x72, x73, x74, x75, x76, x77, x78, x79, x80, x81, x82, x83, x84, x85, x86, x87, x88, x89, x90, x91, x92, x93, x94, x95, x96, x97, x98, x99, x100, x101, x102, x103, x104, x105, x106, x107, x108, x109, x110, x111, x112, x113, x114, x115, x116, x117, x118, x119, x120, x121, x122, x123, x124, x125, x126, x127, x128, x129, x130, x131, x132, x133, x134, x135, x136, x137, x138, x139, x140, x141, x142, x143, x144, x145, x146, x147, x148, x149, x150, x151, x152, x153, x154, x155, x156, x157, x158, x159, x160, x161, x162, x163, x164, x165, x166, x167, x168, x169, x170, x171, x172, x173, x174, x175, x176, x177, x178, x179, x180, x181, x182, x183, x184, x185, x186, x187, x188, x189, x190, x191, x192, x193, x194, x195, x196, x197, x198, x199, x200, x201, x202, x203, x204, x205, x206, x207, x208, x209, x210, x211, x212, x213, x214, x215, x216, x217, x218, x219, x220, x221, x222, x223, x224, x225, x226, x227, x228, x229, x230, x231, x232, x233, x234, x235, x236, x237, x238, x239, x240, x241, x242, x243, x244, x245, x246, x247, x248, x249, x250, x251, x252, x253, x254, x255, x256, x257, x258, x259, x260, x261, x262, x263, x264, x265, x266, x267, x268, x269, x270, x271, x272, x273, x274, x275, x276, x277, x278, x279, x280, x281, x282, x283, x284, x285, x286, x287, x288, x289, x290, x291, x292, x293, x294, x295, x296, x297, x298, x299, x300, x301, x302, x303, x304, x305, x306, x307, x308, x309, x310, x311, x312, x313, x314, x315, x316, x317, x318, x319, x320, x321, x322, x323, x324, x325, x326, x327, x328, x329, x330, x331, x332, x333, x334, x335, x336, x337, x338, x339, x340, x341, x342, x343, x344, x345, x346, x347, x348, x349, x350, x351, x352, x353, x354, x355, x356, x357, x358, x359, x360, x361, x362, x363, x364, x365, x366, x367, x368, x369, x370, x371, x372, x373, x374, x375, x376, x377, x378, x379, x380, x381, x382, x383, x384, x385, x386, x387, x388, x389, x390, x391, x392, x393, x394, x395, x396, x397, x398, x399, x400, x401, x402, x403, x404, x405, x406, x407, x408, x409, x410, x411, x412, x413, x414, x415, x416, x417, x418, x419], []⟩ w := by
  conv => arg 2; whnf
  obtain ⟨ix, hixe⟩ : ∃ ix, d.ix = ix := ⟨_, rfl⟩
  have hix : ix.data.toList = (A ++ k0 :: B).map key := by
    rw [← hixe]
    obtain ⟨_, _, _, h4, _⟩ := HA.out.wf.top
    exact h4
  have hixs : ix.size = (A ++ k0 :: B).length := by
    have := congrArg List.length hix
    rw [List.length_map] at this
    exact this
  have hnd : ((A ++ k0 :: B).map key).Nodup := by
    obtain ⟨_, _, _, _, h5, _⟩ := HA.out.wf.top
    exact h5
  have hne : ∀ j, j < A.length → ∀ hj : j < ix.size, ¬ c = ix[j]'hj := by
    intro j hjA hj e
    have h1 : ix.data.toList[j]? = some (ix[j]'hj) := Pa.at_eq ix j hj
    rw [hix, ← e, ← hk, List.map_append, List.getElem?_append_left (by simpa using hjA)] at h1
    rw [List.map_append, List.map_cons] at hnd
    have h2 := (List.nodup_append.1 hnd).2.2 (key k0) (List.mem_of_getElem? h1) (key k0) (by simp)
    exact h2 rfl
  have heq : ∀ hj : A.length < ix.size, c = ix[A.length]'hj := by
    intro hj
    have h1 : ix.data.toList[A.length]? = some (ix[A.length]'hj) := Pa.at_eq ix _ hj
    rw [hix, List.map_append, List.getElem?_append_right (by simp)] at h1
    simp only [List.length_map, Nat.sub_self, List.map_cons, List.getElem?_cons_zero] at h1
    rw [← hk]; exact Option.some.inj h1
  have hAl : A.length < ix.size := by rw [hixs]; simp only [List.length_append, List.length_cons]; omega
  have hAl2 : A.length < (A ++ k0 :: B).length := by rw [← hixs]; exact hAl
  obtain ⟨L, hL⟩ : ∃ L, (A ++ k0 :: B).length = L := ⟨_, rfl⟩
  have HPRIO : Hid (Calls Try.prog 41 #[.pointer (some ⟨b, 0, none⟩), .int .i64 A.length] w fun e w' => ∃ m g cap kb : Nat, e = .returned (.int .i64 (m : Nat)) ∧ m < L ∧ w'.cell? ⟨b, 6, none⟩ = some (.slice (some ⟨g, 0, none⟩) L cap) ∧ w'.cell? ⟨g, m, none⟩ = some (.pointer (some ⟨kb, 0, none⟩)) ∧
      Hid (∀ a' v8, Fr a' (.pointer (some ⟨kb, 0, none⟩)) (.string pth') (.iface 3 (.int .i64 (n : Int))) (.string full) (.int .u8 (np : Int)) v8 → NextAt w0 T0 s0 n full k a' w')) := by
    rw [← hL]
    refine (incPrio_any w .st b d p h (A ++ k0 :: B) A.length HA.out.rep hAl2 (by rw [hixe]; exact hixs) hlen).mono ?_
    intro e w' hp
    obtain ⟨m, g, cap, kb, h1, h2, h3, h4, _⟩ := prio_next (v8 := undef) HA.out hs hrest hps hnp hpz hsuf hrk hkey hk hp
    refine ⟨m, g, cap, kb, h1, h2, h3, h4, fun a' v8 hfr => ?_⟩
    obtain ⟨m', g', cap', kb', h1', h2', h3', h4', h5'⟩ := prio_next (v8 := v8) HA.out hs hrest hps hnp hpz hsuf hrk hkey hk hp
    have e1 : m = m' := by
      rw [h1] at h1'
      have h6 : (m : Int) = (m' : Int) := by simpa using h1'
      omega
    subst e1
    rw [h3] at h3'
    have e2 : g = g' := by simpa using (Value.slice.inj (Option.some.inj h3')).1
    subst e2
    rw [h4] at h4'
    have e3 : kb = kb' := by simpa using (Option.some.inj h4')
    subst e3
    exact h5' a' hfr
  have hc5 : w.cell? ⟨b, 5, none⟩ = some (.string ix) := by rw [← hixe]; exact HA.out.rep.c5
  have HNE := Lib.hid hne
  have HEQ := Lib.hid heq
  clear heq
  have hixs2 : ix.size ≤ 2147483647 := by omega
  have hL2 : L ≤ 2147483647 := by omega
  clear hixs
  clear hL hlen hixe hne hnd hix hsuf hrk hkey hk hrest hs
  go_wp2_with fail
  go_loop [0, 16] (fun vp vi => ∃ j : Nat, vp = .pointer (some ⟨b, 0, none⟩) ∧ vi = .int .i64 j ∧ j ≤ A.length) (fun _ vi => A.length - (RowKit.intOf vi).toNat)
  case atStart => exact ⟨0, rfl, rfl, by omega⟩
  case round =>
    obtain ⟨j, rfl, rfl, hj⟩ := hrel
    have hj2 : j < ix.size := by omega
    have tj : (j : Int) < (ix.size : Int) := by omega
    by_cases hlt : j < A.length
    · have te : ((c.toNat : Int) == ((ix[j]'hj2).toNat : Int)) = false := by rw [beq_u8]; simpa using HNE.out j hlt hj2
      go_wp2
      go_round
      case rel => exact ⟨j + 1, rfl, by go_num, by omega⟩
      case measure => simp [RowKit.intOf]; omega
    · obtain rfl : j = A.length := by omega
      have te : ((c.toNat : Int) == ((ix[A.length]'hj2).toNat : Int)) = true := by rw [beq_u8]; simpa using HEQ.out hj2
      clear hlt
      go_wp2_with (go_at_call 41; refine HPRIO.out.mono ?_; rintro e w' ⟨m, g, cap, kb, rfl, hm, h6, hg, HN⟩; (have tm : (m : Int) < (L : Int) := by omega))
      refine HN.out _ x8 ?_
      exact ⟨rfl, rfl, rfl, rfl, rfl, rfl, rfl, rfl⟩

set_option maxHeartbeats 16000000 in
set_option maxRecDepth 100000 in
theorem ro_nofind {w : World} {b : Nat} {ix : ByteArray} {n np : Nat} {full pth' : ByteArray} {c : UInt8} (x3 x4 x5 x8 x9 x10 x11 x12 x13 x14 x17 x18 x19 x20 x21 x22 x23 x24 x25 x26 x27 x28 x29 x30 x31 x32 x33 x34 x35 x36 x37 x38 x39 x40 x41 x42 x43 x44 x45 x46 x47 x48 x49 x50 x51 x52 x53 x54 x55 x56 x57 x58 x59 x60 x61 x62 x63 x64 x65 x66 x67 x68 x69 x70 x71 x72 x73 x74 x75 x76 x77 x78 x79 x80 x81 x82 x83 x84 x85 x86 x87 x88 x89 x90 x91 x92 x93 x94 x95 x96 x97 x98 x99 x100 x101 x102 x103 x104 x105 x106 x107 x108 x109 x110 x111 x112 x113 x114 x115 x116 x117 x118 x119 x120 x121 x122 x123 x124 x125 x126 x127 x128 x129 x130 x131 x132 x133 x134 x135 x136 x137 x138 x139 x140 x141 x142 x143 x144 x145 x146 x147 x148 x149 x150 x151 x152 x153 x154 x155 x156 x157 x158 x159 x160 x161 x162 x163 x164 x165 x166 x167 x168 x169 x170 x171 x172 x173 x174 x175 x176 x177 x178 x179 x180 x181 x182 x183 x184 x185 x186 x187 x188 x189 x190 x191 x192 x193 x194 x195 x196 x197 x198 x199 x200 x201 x202 x203 x204 x205 x206 x207 x208 x209 x210 x211 x212 x213 x214 x215 x216 x217 x218 x219 x220 x221 x222 x223 x224 x225 x226 x227 x228 x229 x230 x231 x232 x233 x234 x235 x236 x237 x238 x239 x240 x241 x242 x243 x244 x245 x246 x247 x248 x249 x250 x251 x252 x253 x254 x255 x256 x257 x258 x259 x260 x261 x262 x263 x264 x265 x266 x267 x268 x269 x270 x271 x272 x273 x274 x275 x276 x277 x278 x279 x280 x281 x282 x283 x284 x285 x286 x287 x288 x289 x290 x291 x292 x293 x294 x295 x296 x297 x298 x299 x300 x301 x302 x303 x304 x305 x306 x307 x308 x309 x310 x311 x312 x313 x314 x315 x316 x317 x318 x319 x320 x321 x322 x323 x324 x325 x326 x327 x328 x329 x330 x331 x332 x333 x334 x335 x336 x337 x338 x339 x340 x341 x342 x343 x344 x345 x346 x347 x348 x349 x350 x351 x352 x353 x354 x355 x356 x357 x358 x359 x360 x361 x362 x363 x364 x365 x366 x367 x368 x369 x370 x371 x372 x373 x374 x375 x376 x377 x378 x379 x380 x381 x382 x383 x384 x385 x386 x387 x388 x389 x390 x391 x392 x393 x394 x395 x396 x397 x398 x399 x400 x401 x402 x403 x404 x405 x406 x407 x408 x409 x410 x411 x412 x413 x414 x415 x416 x417 x418 x419 : Value) (hc5 : w.cell? ⟨b, 5, none⟩ = some (.string ix)) (hix : ix.size ≤ 2147483647) (HNE : Hid (∀ j, ∀ hj : j < ix.size, ¬ c = ix[j]'hj)) {K : Act → World → Prop} {Q : Exit → Act → World → Prop} (hK : ∀ a', (∃ v8, (Fr a' (.pointer (some ⟨b, 0, none⟩)) (.string pth') (.iface 3 (.int .i64 (n : Int))) (.string full) (.int .u8 (np : Int)) v8) ∧ a'.tmps.getD 15 undef = .int .u8 (c.toNat : Int)) → K a' w) :
    roS.wp Try.prog (Exit.then K Q) ⟨#[.pointer (some ⟨b, 0, none⟩), .string pth', .iface 3 (.int .i64 (n : Int)), x3, x4, x5, .string full, .int .u8 (np : Int), x8, x9, x10, x11, x12, x13, x14, .int .u8 (c.toNat : Int), .int .i64 0, x17, x18, x19, x20, x21, x22, x23, x24, x25, x26, x27, x28, x29, x30, x31, x32, x33, x34, x35, x36, x37, x38, x39, x40, x41, x42, x43, x44, x45, x46, x47, x48, x49, x50, x51, x52, x53, x54, x55, x56, x57, x58, x59, x60, x61, x62, x63, x64, x65, x66, x67, x68, x69, x70, x71, x72, x73, x74, x75, x76, x77, x78, x79, x80, x81, x82, x83, x84, x85, x86, x87, x88, x89, x90, x91, x92, x93, x94, x95, x96, x97, x98, x99, x100, x101, x102, x103, x104, x105, x106, x107, x108, x109, x110, x111, x112, x113, x114, x115, x116, x117, x118, x119, x120, x121, x122, x123, x124, x125, x126, x127, x128, x129, x130, x131, x132, x133, x134, x135, x136, x137, x138, x139, x140, x141, x142, x143, x144, x145, x146, x147, x148, x149, x150, x151, x152, x153, x154, x155, x156, x157, x158, x159, x160, x161, x162, x163, x164, x165, x166, x167, x168, x169, x170, x171, x172, x173, x174, x175, x176, x177, x178, x179, x180, x181, x182, x183, x184, x185, x186, x187, x188, x189, x190, x191, x192, x193, x194, x195, x196, x197, x198, x199, x200, x201, x202, x203, x204, x205, x206, x207, x208, x209, x210, x211, x212, x213, x214, x215, x216, x217, x218, x219, x220, x221, x222, x223, x224, x225, x226, x227, x228, x229, x230, x231, x232, x233, x234, x235, x236, x237, x238, x239, x240, x241, x242, x243, x244, x245, x246, x247, x248, x249, x250, x251, x252, x253, x254, x255, x256, x257, x258, x259, x260, x261, x262, x263, x264, x265, x266, x267, x268, x269, x270, x271, x272, x273, x274, x275, x276, x277, x278, x279, x280, x281, x282, x283, x284, x285, x286, x287, x288, x289, x290, x291, x292, x293, x294, x295, x296, x297, x298, x299, x300, x301, x302, x303, x304, x305, x306, x307, x308, x309, x310, x311, x312, x313, x314, x315, x316, x317, x318, x319, x320, x321, x322, x323, x324, x325, x326, x327, x328, x329, x330, x331, x332, x333, x334, x335, x336, x337, x338, x339, x340, x341, x342, x343, x344, x345, x346, x347, x348, x349, x350, x351, x352, x353, x354, x355, x356, x357, x358, x359, x360, x361, x362, x363, x364, x365, x366, x367, x368, x369, x370, x371, x372, x373, x374, x375, x376, x377, x378, x379, x380, x381, x382, x383, x384, x385, x386, x387, x388, x389, x390, x391, x392, x393, x394, x395, x396, x397, x398, x399, x400, x401, x402, x403, x404, x405, x406, x407, x408, x409, x410, x411, x412, x413, x414, x415, x416, x417, x418, x419], []⟩ w := by
  conv => arg 2; whnf
  go_wp2_with fail
  go_loop [0, 16] (fun vp vi => ∃ j : Nat, vp = .pointer (some ⟨b, 0, none⟩) ∧ vi = .int .i64 j ∧ j ≤ ix.size) (fun _ vi => ix.size - (RowKit.intOf vi).toNat)
  case atStart => exact ⟨0, rfl, rfl, by omega⟩
  case round =>
    obtain ⟨j, rfl, rfl, hj⟩ := hrel
    by_cases hlt : j < ix.size
    · have tj : (j : Int) < (ix.size : Int) := by omega
      have te : ((c.toNat : Int) == ((ix[j]'hlt).toNat : Int)) = false := by rw [beq_u8]; simpa using HNE.out j hlt
      go_wp2
      go_round
      case rel => exact ⟨j + 1, rfl, by go_num, by omega⟩
      case measure => simp [RowKit.intOf]; omega
    · have tj : ¬ (j : Int) < (ix.size : Int) := by omega
      go_wp2
      refine ⟨x8, ?_⟩
      exact ⟨rfl, rfl, rfl, rfl, rfl, rfl, rfl, rfl⟩


end Go.Proofs.Ytcobbbbnmepmfaa
