/- addRoute's round: from a parameter to what follows it. -/
import Derived.Test.YtcobbbbnmepmfaaRoPr
import Derived.Deep.QuietTactic
import Derived.BigQuiet
namespace Go.Proofs.Ytcobbbbnmepmfaa
open Go Go.RowKit Go.Lib Tr

set_option maxHeartbeats 16000000 in
set_option maxRecDepth 100000 in
theorem ro_pm {w0 w : World} {T0 : HT} {b : Nat} {d : Dec} {p : ByteArray} {h : Option Nat} {s0 s : List Tok} {n np : Nat} {full pth : ByteArray} {k : Nat} (x3 x4 x5 x9 x10 x11 x12 x13 x14 x15 x16 x17 x18 x19 x20 x21 x22 x23 x24 x25 x26 x27 x28 x29 x30 x31 x32 x33 x34 x35 x36 x37 x38 x39 x40 x41 x42 x43 x44 x45 x46 x47 x48 x49 x50 x51 x52 x53 x54 x55 x56 x57 x58 x59 x60 x61 x62 x63 x64 x65 x66 x67 x68 x69 x70 x71 x72 x73 x74 x75 x76 x77 x78 x79 x80 x81 x82 x83 x84 x85 x86 x87 x88 x89 x90 x91 x92 x93 x94 x95 x96 x97 x98 x99 x100 x101 x102 x103 x104 x105 x106 x107 x108 x109 x110 x111 x112 x113 x114 x115 x116 x117 x118 x119 x120 x121 x122 x123 x124 x125 x126 x127 x128 x129 x130 x131 x132 x133 x134 x135 x136 x137 x138 x139 x140 x141 x142 x143 x144 x145 x146 x147 x148 x149 x150 x151 x152 x153 x154 x155 x156 x157 x158 x159 x160 x161 x162 x163 x164 x165 x166 x167 x168 x169 x170 x171 x172 x173 x174 x175 x176 x177 x178 x179 x180 x181 x182 x183 x184 x185 x186 x187 x188 x189 x190 x191 x192 x193 x194 x195 x196 x197 x198 x199 x200 x201 x202 x203 x204 x205 x206 x207 x208 x209 x210 x211 x212 x213 x214 x215 x216 x217 x218 x219 x220 x221 x222 x223 x224 x225 x226 x227 x228 x229 x230 x231 x232 x233 x234 x235 x236 x237 x238 x239 x240 x241 x242 x243 x244 x245 x246 x247 x248 x249 x250 x251 x252 x253 x254 x255 x256 x257 x258 x259 x260 x261 x262 x263 x264 x265 x266 x267 x268 x269 x270 x271 x272 x273 x274 x275 x276 x277 x278 x279 x280 x281 x282 x283 x284 x285 x286 x287 x288 x289 x290 x291 x292 x293 x294 x295 x296 x297 x298 x299 x300 x301 x302 x303 x304 x305 x306 x307 x308 x309 x310 x311 x312 x313 x314 x315 x316 x317 x318 x319 x320 x321 x322 x323 x324 x325 x326 x327 x328 x329 x330 x331 x332 x333 x334 x335 x336 x337 x338 x339 x340 x341 x342 x343 x344 x345 x346 x347 x348 x349 x350 x351 x352 x353 x354 x355 x356 x357 x358 x359 x360 x361 x362 x363 x364 x365 x366 x367 x368 x369 x370 x371 x372 x373 x374 x375 x376 x377 x378 x379 x380 x381 x382 x383 x384 x385 x386 x387 x388 x389 x390 x391 x392 x393 x394 x395 x396 x397 x398 x399 x400 x401 x402 x403 x404 x405 x406 x407 x408 x409 x410 x411 x412 x413 x414 x415 x416 x417 x418 x419 : Value) {c1 : HT} (hps : pth.size ≤ 2147483647) (hnp : np ≤ 20) (HA : Hid (AddAt w0 T0 s0 n full pth (.mk .pm b d p h [c1]) s np w)) (hle : p.size ≤ pth.size) (HM : Hid (Mid (.mk .pm b ⟨0, 0, 0, ⟨#[]⟩, none⟩ p h [c1]) s (pth.data.toList.drop p.size))) (he : p.size < pth.size) (hrk : rk pth .pm ≤ k) :
    roD.wp Try.prog (RoQ w0 T0 s0 n full k) ⟨#[.pointer (some ⟨b, 0, none⟩), .string pth, .iface 3 (.int .i64 (n : Int)), x3, x4, x5, .string full, .int .u8 (np : Int), .int .i64 (p.size : Int), x9, x10, x11, x12, x13, x14, x15, x16, x17, x18, x19, x20, x21, x22, x23, x24, x25, x26, x27, x28, x29, x30, x31, x32, x33, x34, x35, x36, x37, x38, x39, x40, x41, x42, x43, x44, x45, x46, x47, x48, x49, x50, x51, x52, x53, x54, x55, x56, x57, x58, x59, x60, x61, x62, x63, x64, x65, x66, x67, x68, x69, x70, x71, x72, x73, x74, x75, x76, x77, x78, x79, x80, x81, x82, x83, x84, x85, x86, x87, x88, x89, x90, x91, x92, x93, x94, x95, x96, x97, x98, x99, x100, x101, x102, x103, x104, x105, x106, x107, x108, x109, x110, x111, x112, x113, x114, x115, x116, x117, x118, x119, x120, x121, x122, x123, x124, x125, x126, x127, x128, x129, x130, x131, x132, x133, x134, x135, x136, x137, x138, x139, x140, x141, x142, x143, x144, x145, x146, x147, x148, x149, x150, x151, x152, x153, x154, x155, x156, x157, x158, x159, x160, x161, x162, x163, x164, x165, x166, x167, x168, x169, x170, x171, x172, x173, x174, x175, x176, x177, x178, x179, x180, x181, x182, x183, x184, x185, x186, x187, x188, x189, x190, x191, x192, x193, x194, x195, x196, x197, x198, x199, x200, x201, x202, x203, x204, x205, x206, x207, x208, x209, x210, x211, x212, x213, x214, x215, x216, x217, x218, x219, x220, x221, x222, x223, x224, x225, x226, x227, x228, x229, x230, x231, x232, x233, x234, x235, x236, x237, x238, x239, x240, x241, x242, x243, x244, x245, x246, x247, x248, x249, x250, x251, x252, x253, x254, x255, x256, x257, x258, x259, x260, x261, x262, x263, x264, x265, x266, x267, x268, x269, x270, x271, x272, x273, x274, x275, x276, x277, x278, x279, x280, x281, x282, x283, x284, x285, x286, x287, x288, x289, x290, x291, x292, x293, x294, x295, x296, x297, x298, x299, x300, x301, x302, x303, x304, x305, x306, x307, x308, x309, x310, x311, x312, x313, x314, x315, x316, x317, x318, x319, x320, x321, x322, x323, x324, x325, x326, x327, x328, x329, x330, x331, x332, x333, x334, x335, x336, x337, x338, x339, x340, x341, x342, x343, x344, x345, x346, x347, x348, x349, x350, x351, x352, x353, x354, x355, x356, x357, x358, x359, x360, x361, x362, x363, x364, x365, x366, x367, x368, x369, x370, x371, x372, x373, x374, x375, x376, x377, x378, x379, x380, x381, x382, x383, x384, x385, x386, x387, x388, x389, x390, x391, x392, x393, x394, x395, x396, x397, x398, x399, x400, x401, x402, x403, x404, x405, x406, x407, x408, x409, x410, x411, x412, x413, x414, x415, x416, x417, x418, x419], []⟩ w := by
  conv => arg 2; whnf

  obtain ⟨pth', hpe⟩ : ∃ x, x = pth.extract p.size pth.size := ⟨_, rfl⟩
  have hpd : pth'.data.toList = pth.data.toList.drop p.size := by rw [hpe]; exact Lib.extract_to_end pth p.size
  have hpz : pth'.size = pth.size - p.size := by
    have := congrArg List.length hpd
    rw [List.length_drop] at this
    exact this
  have HSUF : Hid (∃ A, full.data.toList = A ++ pth'.data.toList) := by
    obtain ⟨A, hA⟩ := HA.out.suf
    exact ⟨A ++ pth.data.toList.take p.size, by rw [hA, hpd, List.append_assoc, List.take_append_drop]⟩
  have t1 : (p.size : Int) < (pth.size : Int) := by omega
  have t2 : (p.size : Int) ≤ (pth.size : Int) := by omega
  have h0 : 0 < pth'.size := by omega
  have t0 : (0 : Int) < (pth'.size : Int) := by omega
  have hps' : pth'.size ≤ 2147483647 := by omega
  have hpe' : pth.extract p.size pth.size = pth' := hpe.symm

  obtain ⟨s', hs, hrest⟩ : ∃ s', s = toks .pm p.data.toList ++ s' ∧ pth'.data.toList = enc s' := by
    rcases HM.out.or with ⟨s', h1, h2⟩ | ⟨h1, _⟩
    · exact ⟨s', h1, by rw [hpd]; exact h2⟩
    · rcases h1 with h1 | h1 <;> cases h1
  have hne : s' ≠ [] := by
    rintro rfl
    have : pth'.data.toList.length = 0 := by rw [hrest]; rfl
    have h2 : pth'.size = 0 := this
    omega
  have hkey : sKey s' = some 47 := by
    obtain ⟨sl, hv⟩ := HA.out.val
    rw [hs] at hv
    have hsl : slashed s' := hv.2.2.1
    match s', hne, hsl with
    | .b c :: _, _, h => rw [show c = 47 from h]; rfl
    | .all _ :: _, _, _ => rfl
  have hc47 : (pth'[0]'h0) = 47 := by
    have h1 := enc_key hkey
    rw [← hrest, List.getElem?_eq_getElem (by exact h0)] at h1
    exact Option.some.inj h1
  have tc : ((pth'[0]'h0).toNat : Int) = 47 := by rw [hc47]; rfl
  have hsh := HA.out.wf.top
  obtain ⟨hst, hk47⟩ : c1.tag.stat ∧ key c1 = 47 := by
    obtain ⟨_, _, _, _, h5⟩ := hsh
    rcases h5 with ⟨h5, _⟩ | ⟨k', h5, h6, h7, _⟩
    · cases h5
    · have : c1 = k' := by simpa using h5
      subst this
      exact ⟨h6, h7⟩
  have hlike := fun v q => Like.setPrKid (A := []) (B := []) HA.out.rep HA.out.wf v q
  have hnp' : np = cnt s' := by
    have h1 := HA.out.np1 rfl
    rw [hs] at h1
    have h2 : cnt (toks .pm p.data.toList ++ s') = cnt s' + 1 := by rw [cnt_toks (by simp)]; rfl
    omega
  have hdown : ∀ v q, AddAt w0 T0 s0 n full pth' (c1.setPr v) s' np ((w.setCell ⟨c1.b, 4, none⟩ (.int .u32 v)).drewN q) := fun v q =>
    HA.out.down (A := []) (B := []) (hlike v q) hs hne (by rw [setPr_R, hs]; exact pm_down hne) (fun _ => Nat.le_refl _) (.inl ⟨by rw [setPr_tag]; exact hst, by rw [setPr_key, hk47]; exact hkey⟩)
      (fun e => by rw [setPr_tag] at e; rcases hst with e' | e' <;> rw [e] at e' <;> cases e') (fun _ => hnp') hrest HSUF.out
  have hnext : ∀ v q a', Fr a' (.pointer (some ⟨c1.b, 0, none⟩)) (.string pth') (.iface 3 (.int .i64 (n : Int))) (.string full) (.int .u8 (np : Int)) (.int .i64 (p.size : Int)) → NextAt w0 T0 s0 n full k a' ((w.setCell ⟨c1.b, 4, none⟩ (.int .u32 v)).drewN q) := by
    intro v q a' hfr
    have h1 := hdown v q
    obtain ⟨ct, cb, cd, cp, ch, ck⟩ := c1
    refine ⟨pth', ct, cb, cp, ch, ck, s', np, _, ⟨hfr, hps', hnp, _, h1⟩, ?_⟩
    have hp0 : 0 < p.size := by
      obtain ⟨⟨x, _, hx⟩, _⟩ := hsh
      have : p.data.toList.length = x.length + 1 := by rw [hx]; rfl
      have : p.size = x.length + 1 := this
      omega
    have : rk pth .pm = 2 * pth.size + 1 := rfl
    have h3 : rk pth' ct ≤ 2 * pth'.size + 1 := by unfold rk; split <;> omega
    omega
  have HNEXT := Lib.hid hnext
  have hc1 : w.cell? ⟨b, 1, none⟩ = some (.bool false) := HA.out.rep.c1
  have hc2 : w.cell? ⟨b, 2, none⟩ = some (.int .u8 2) := HA.out.rep.c2
  obtain ⟨g, sp, hda⟩ : ∃ g sp, d.arr = some (g, sp) := by
    have h2 := HA.out.rep.node.2
    cases hda : d.arr with
    | none => simp only [hda] at h2; cases h2
    | some q => exact ⟨q.1, q.2, rfl⟩
  have hc6 : w.cell? ⟨b, 6, none⟩ = some (.slice (some ⟨g, 0, none⟩) 1 (1 + sp.length : Nat)) := by
    have := HA.out.rep.c6
    rw [hda] at this
    exact this
  have hg : w.cell? ⟨g, 0, none⟩ = some (.pointer (some ⟨c1.b, 0, none⟩)) := HA.out.rep.kidcell (A := []) (B := []) hda
  obtain ⟨hc4, hf4⟩ := (HA.out.rep.kid (t := .mk .pm b d p h [c1]) (k := c1) (by show c1 ∈ [c1]; simp)).pr
  clear hnext hdown hnp' hlike hk47 hst hsh hc47 hkey hne hrest hs hpz hpd hpe hda he hle hrk
  go_wp2
  refine HNEXT.out _ 0 _ ?_
  exact ⟨rfl, rfl, rfl, rfl, rfl, rfl, rfl, rfl⟩


end Go.Proofs.Ytcobbbbnmepmfaa
