/- addRoute's round: down to the parameter. -/
import Derived.Test.YtcobbbbnmepmfaaRoWc
import Derived.Deep.QuietTactic
import Derived.BigQuiet
namespace Go.Proofs.Ytcobbbbnmepmfaa
open Go Go.RowKit Go.Lib Tr

set_option linter.unusedVariables false
set_option maxHeartbeats 16000000 in
set_option maxRecDepth 100000 in
theorem ro_wc {w0 w : World} {T0 : HT} {b : Nat} {d : Dec} {p : ByteArray} {h : Option Nat} {s0 s : List Tok} {n np : Nat} {full pth : ByteArray} {cb : Nat} {cd : Dec} {cp : ByteArray} {ch : Option Nat} {ck : List HT} {k : Nat} (x3 x4 x5 x9 x10 x11 x12 x13 x14 x15 x16 x17 x18 x19 x20 x21 x22 x23 x24 x25 x26 x27 x28 x29 x30 x31 x32 x33 x34 x35 x36 x37 x38 x39 x40 x41 x42 x43 x44 x45 x46 x47 x48 x49 x50 x51 x52 x53 x54 x55 x56 x57 x58 x59 x60 x61 x62 x63 x64 x65 x66 x67 x68 x69 x70 x71 x72 x73 x74 x75 x76 x77 x78 x79 x80 x81 x82 x83 x84 x85 x86 x87 x88 x89 x90 x91 x92 x93 x94 x95 x96 x97 x98 x99 x100 x101 x102 x103 x104 x105 x106 x107 x108 x109 x110 x111 x112 x113 x114 x115 x116 x117 x118 x119 x120 x121 x122 x123 x124 x125 x126 x127 x128 x129 x130 x131 x132 x133 x134 x135 x136 x137 x138 x139 x140 x141 x142 x143 x144 x145 x146 x147 x148 x149 x150 x151 x152 x153 x154 x155 x156 x157 x158 x159 x160 x161 x162 x163 x164 x165 x166 x167 x168 x169 x170 x171 x172 x173 x174 x175 x176 x177 x178 x179 x180 x181 x182 x183 x184 x185 x186 x187 x188 x189 x190 x191 x192 x193 x194 x195 x196 x197 x198 x199 x200 x201 x202 x203 x204 x205 x206 x207 x208 x209 x210 x211 x212 x213 x214 x215 x216 x217 x218 x219 x220 x221 x222 x223 x224 x225 x226 x227 x228 x229 x230 x231 x232 x233 x234 x235 x236 x237 x238 x239 x240 x241 x242 x243 x244 x245 x246 x247 x248 x249 x250 x251 x252 x253 x254 x255 x256 x257 x258 x259 x260 x261 x262 x263 x264 x265 x266 x267 x268 x269 x270 x271 x272 x273 x274 x275 x276 x277 x278 x279 x280 x281 x282 x283 x284 x285 x286 x287 x288 x289 x290 x291 x292 x293 x294 x295 x296 x297 x298 x299 x300 x301 x302 x303 x304 x305 x306 x307 x308 x309 x310 x311 x312 x313 x314 x315 x316 x317 x318 x319 x320 x321 x322 x323 x324 x325 x326 x327 x328 x329 x330 x331 x332 x333 x334 x335 x336 x337 x338 x339 x340 x341 x342 x343 x344 x345 x346 x347 x348 x349 x350 x351 x352 x353 x354 x355 x356 x357 x358 x359 x360 x361 x362 x363 x364 x365 x366 x367 x368 x369 x370 x371 x372 x373 x374 x375 x376 x377 x378 x379 x380 x381 x382 x383 x384 x385 x386 x387 x388 x389 x390 x391 x392 x393 x394 x395 x396 x397 x398 x399 x400 x401 x402 x403 x404 x405 x406 x407 x408 x409 x410 x411 x412 x413 x414 x415 x416 x417 x418 x419 : Value) {x : Bytes} {s'' : List Tok} (hps : pth.size ≤ 2147483647) (hnp : np ≤ 20) (HA : Hid (AddAt w0 T0 s0 n full pth (.mk .wc b d p h [.mk .pm cb cd cp ch ck]) s np w)) (hle : p.size ≤ pth.size) (HM : Hid (Mid (.mk .wc b ⟨0, 0, 0, ⟨#[]⟩, none⟩ p h [.mk .pm cb cd cp ch ck]) s (pth.data.toList.drop p.size))) (he : p.size < pth.size) (hrk : rk pth .wc ≤ k) (hs : s = toks .wc p.data.toList ++ .par x :: s'') (hrest : pth.data.toList.drop p.size = enc (.par x :: s'')) (hx : cp.data.toList = 58 :: x) :
    roD.wp Try.prog (RoQ w0 T0 s0 n full k) ⟨#[.pointer (some ⟨b, 0, none⟩), .string pth, .iface 3 (.int .i64 (n : Int)), x3, x4, x5, .string full, .int .u8 (np : Int), .int .i64 (p.size : Int), x9, x10, x11, x12, x13, x14, x15, x16, x17, x18, x19, x20, x21, x22, x23, x24, x25, x26, x27, x28, x29, x30, x31, x32, x33, x34, x35, x36, x37, x38, x39, x40, x41, x42, x43, x44, x45, x46, x47, x48, x49, x50, x51, x52, x53, x54, x55, x56, x57, x58, x59, x60, x61, x62, x63, x64, x65, x66, x67, x68, x69, x70, x71, x72, x73, x74, x75, x76, x77, x78, x79, x80, x81, x82, x83, x84, x85, x86, x87, x88, x89, x90, x91, x92, x93, x94, x95, x96, x97, x98, x99, x100, x101, x102, x103, x104, x105, x106, x107, x108, x109, x110, x111, x112, x113, x114, x115, x116, x117, x118, x119, x120, x121, x122, x123, x124, x125, x126, x127, x128, x129, x130, x131, x132, x133, x134, x135, x136, x137, x138, x139, x140, x141, x142, x143, x144, x145, x146, x147, x148, x149, x150, x151, x152, x153, x154, x155, x156, x157, x158, x159, x160, x161, x162, x163, x164, x165, x166, x167, x168, x169, x170, x171, x172, x173, x174, x175, x176, x177, x178, x179, x180, x181, x182, x183, x184, x185, x186, x187, x188, x189, x190, x191, x192, x193, x194, x195, x196, x197, x198, x199, x200, x201, x202, x203, x204, x205, x206, x207, x208, x209, x210, x211, x212, x213, x214, x215, x216, x217, x218, x219, x220, x221, x222, x223, x224, x225, x226, x227, x228, x229, x230, x231, x232, x233, x234, x235, x236, x237, x238, x239, x240, x241, x242, x243, x244, x245, x246, x247, x248, x249, x250, x251, x252, x253, x254, x255, x256, x257, x258, x259, x260, x261, x262, x263, x264, x265, x266, x267, x268, x269, x270, x271, x272, x273, x274, x275, x276, x277, x278, x279, x280, x281, x282, x283, x284, x285, x286, x287, x288, x289, x290, x291, x292, x293, x294, x295, x296, x297, x298, x299, x300, x301, x302, x303, x304, x305, x306, x307, x308, x309, x310, x311, x312, x313, x314, x315, x316, x317, x318, x319, x320, x321, x322, x323, x324, x325, x326, x327, x328, x329, x330, x331, x332, x333, x334, x335, x336, x337, x338, x339, x340, x341, x342, x343, x344, x345, x346, x347, x348, x349, x350, x351, x352, x353, x354, x355, x356, x357, x358, x359, x360, x361, x362, x363, x364, x365, x366, x367, x368, x369, x370, x371, x372, x373, x374, x375, x376, x377, x378, x379, x380, x381, x382, x383, x384, x385, x386, x387, x388, x389, x390, x391, x392, x393, x394, x395, x396, x397, x398, x399, x400, x401, x402, x403, x404, x405, x406, x407, x408, x409, x410, x411, x412, x413, x414, x415, x416, x417, x418, x419], []⟩ w := by
  conv => arg 2; whnf

  obtain ⟨pth', hpe⟩ : ∃ x, x = pth.extract p.size pth.size := ⟨_, rfl⟩
  have hpd : pth'.data.toList = pth.data.toList.drop p.size := by rw [hpe]; exact Lib.extract_to_end pth p.size
  have hpz : pth'.size = pth.size - p.size := by
    have := congrArg List.length hpd
    rw [List.length_drop] at this
    exact this
  have HSUF : Hid (∃ A, full.data.toList = A ++ pth'.data.toList) := by
    obtain ⟨A, hA⟩ := HA.out.suf
    exact ⟨A ++ pth.data.toList.take p.size, by rw [hA, hpd, List.append_assoc, List.take_append_drop]⟩
  have t1 : (p.size : Int) < (pth.size : Int) := by omega
  have t2 : (p.size : Int) ≤ (pth.size : Int) := by omega
  have h0 : 0 < pth'.size := by omega
  have t0 : (0 : Int) < (pth'.size : Int) := by omega
  have hps' : pth'.size ≤ 2147483647 := by omega
  have hpe' : pth.extract p.size pth.size = pth' := hpe.symm

  have hkm : (HT.mk .pm cb cd cp ch ck) ∈ (HT.mk .wc b d p h [.mk .pm cb cd cp ch ck]).kids := by show _ ∈ [_]; simp
  have hrk0 := HA.out.rep.kid hkm
  have hc1 : w.cell? ⟨b, 1, none⟩ = some (.bool true) := HA.out.rep.c1
  obtain ⟨g, sp, hda⟩ : ∃ g sp, d.arr = some (g, sp) := by
    have h2 := HA.out.rep.node.2
    cases hda : d.arr with
    | none => simp only [hda] at h2; cases h2
    | some q => exact ⟨q.1, q.2, rfl⟩
  have hc6 : w.cell? ⟨b, 6, none⟩ = some (.slice (some ⟨g, 0, none⟩) 1 (1 + sp.length : Nat)) := by
    have := HA.out.rep.c6
    rw [hda] at this
    exact this
  have hg : w.cell? ⟨g, 0, none⟩ = some (.pointer (some ⟨cb, 0, none⟩)) := HA.out.rep.kidcell (A := []) (B := []) hda
  have k0 : w.cell? ⟨cb, 0, none⟩ = some (.string cp) := hrk0.c0
  have k2 : w.cell? ⟨cb, 2, none⟩ = some (.int .u8 2) := hrk0.c2
  have k3 : w.cell? ⟨cb, 3, none⟩ = some (.int .u8 (cd.mp : Int)) := hrk0.c3
  have k4 : w.cell? ⟨cb, 4, none⟩ = some (.int .u32 cd.pr) := hrk0.c4
  have f3 : w.frozen? ⟨cb, 3, none⟩ = false := hrk0.free 3
  have f4 : w.frozen? ⟨cb, 4, none⟩ = false := hrk0.free 4

  have hpt : pth'.data.toList = cp.data.toList ++ enc s'' := by rw [hpd, hrest, hx]; rfl
  have hcps : cp.size = x.length + 1 := by
    have : cp.data.toList.length = x.length + 1 := by rw [hx]; rfl
    exact this
  have hcle : cp.size ≤ pth'.size := by
    have h1 := congrArg List.length hpt
    rw [List.length_append] at h1
    have h2 : pth'.size = cp.size + (enc s'').length := h1
    omega
  have tA : (cp.size : Int) ≤ (pth'.size : Int) := by omega
  have tB : (cp.toList == (pth'.extract 0 cp.size).toList) = true := by
    rw [beq_iff_eq, Lib.toList_data, Lib.toList_data, Lib.extract_data, List.drop_zero, Nat.sub_zero, hpt]
    exact (List.take_left' rfl).symm
  have hcnt : np = cnt (.par x :: s'') := by
    have h1 := HA.out.np2 (by intro e; cases e)
    rw [hs, cnt_toks (by simp)] at h1
    simpa using h1
  have hnp1 : 1 ≤ np := by rw [hcnt]; simp [cnt]
  have tnp : (1 : Int) ≤ (np : Int) := by omega
  have hcore : ∀ (cd' : Dec) (W : World) (q : Nat) (vp : Value) (a' : Act), Like w (.mk .wc b d p h [.mk .pm cb cd cp ch ck]) W (.mk .wc b d p h [.mk .pm cb cd' cp ch ck]) → np ≤ cd'.mp → vp = .int .u8 ((np - 1 : Nat) : Int) →
      Fr a' (.pointer (some ⟨cb, 0, none⟩)) (.string pth') (.iface 3 (.int .i64 (n : Int))) (.string full) vp (.int .i64 (p.size : Int)) → NextAt w0 T0 s0 n full k a' (W.drewN q) := by
    rintro cd' W q vp a' l3 hm2 rfl hfr
    have hbad : Bad (R (.mk .wc b d p h [.mk .pm cb cd cp ch ck])) s ↔ Bad (R (.mk .pm cb cd' cp ch ck)) (.par x :: s'') := by
      rw [hs]
      exact wc_down ⟨x, s'', rfl⟩
    have h4 := HA.out.down (A := []) (B := []) (k1 := .mk .pm cb cd' cp ch ck) (np' := np - 1) l3 hs (by simp) hbad (fun _ => Nat.le_refl _)
      (.inr (.inl ⟨rfl, ⟨s'', by show _ = Tok.par cp.data.toList.tail :: s''; rw [hx]; rfl⟩, by rw [← hcnt]; exact hm2⟩)) (fun _ => by rw [← hcnt]; omega) (fun e => absurd rfl e) (by rw [hpt, hx]; rfl) HSUF.out
    refine ⟨pth', .pm, cb, cp, ch, ck, _, np - 1, _, ⟨hfr, hps', by omega, _, h4.drewN q⟩, ?_⟩
    have hp0 : 0 < p.size := by
      obtain ⟨_, _, h5, _⟩ := HA.out.wf.top
      cases hpp : p.data.toList with
      | nil => rw [hpp] at h5; cases h5
      | cons c l =>
        have : p.data.toList.length = l.length + 1 := by rw [hpp]; rfl
        have : p.size = l.length + 1 := this
        omega
    have e1 : rk pth .wc = 2 * pth.size + 1 := rfl
    have e2 : rk pth' .pm = 2 * pth'.size + 1 := rfl
    omega
  have HCORE := Lib.hid hcore
  have hl1 : ∀ v : Int, Like w (.mk .wc b d p h [.mk .pm cb cd cp ch ck]) (w.setCell ⟨cb, 4, none⟩ (.int .u32 v)) (.mk .wc b d p h [.mk .pm cb { cd with pr := v } cp ch ck]) := fun v => Like.setPrKid (A := []) (B := []) HA.out.rep HA.out.wf v 0
  have hl2 : ∀ (v : Int) (m : Nat), cd.mp ≤ m → m ≤ 255 → Like w (.mk .wc b d p h [.mk .pm cb cd cp ch ck]) ((w.setCell ⟨cb, 4, none⟩ (.int .u32 v)).setCell ⟨cb, 3, none⟩ (.int .u8 (m : Int))) (.mk .wc b d p h [.mk .pm cb { cd with pr := v, mp := m } cp ch ck]) := fun v m h1 h2 =>
    (hl1 v).trans (Like.kidMp (cd := { cd with pr := v }) (hl1 v).rep (hl1 v).wf (m := m) h1 h2)
  have HL1 := Lib.hid hl1
  have HL2 := Lib.hid hl2
  have hslash : s'' = [] ∨ pth'.data.toList[cp.size]? = some 47 := by
    obtain ⟨sl, hv⟩ := HA.out.val
    rw [hs] at hv
    have hv2 : ∃ sl', Val sl' (.par x :: s'') := Val.drop_toks hv (by simp)
    obtain ⟨sl', _, _, hsl, _⟩ := hv2
    cases s'' with
    | nil => exact .inl rfl
    | cons t1 t2 =>
      right
      rw [hpt, List.getElem?_append_right (by exact Nat.le_refl _)]
      show (enc (t1 :: t2))[cp.size - cp.size]? = _
      rw [Nat.sub_self]
      match t1, hsl with
      | .b c, h => rw [show c = 47 from h]; rfl
      | .all _, _ => rfl
  have hD : ¬ cp.size < pth'.size ∨ ∃ hlt : cp.size < pth'.size, ((pth'[cp.size]'hlt).toNat : Int) = 47 := by
    by_cases hlt : cp.size < pth'.size
    · right
      refine ⟨hlt, ?_⟩
      rcases hslash with rfl | h1
      · exfalso
        have h1 := congrArg List.length hpt
        rw [List.length_append] at h1
        have h2 : pth'.size = cp.size + 0 := h1
        omega
      · rw [List.getElem?_eq_getElem (by exact hlt)] at h1
        have h2 : pth'[cp.size]'hlt = 47 := Option.some.inj h1
        rw [h2]; rfl
    · exact .inl hlt
  have hmp255 : cd.mp ≤ 255 := (HA.out.wf.kid hkm).top.2.2.1
  clear hslash hcore hl1 hl2 hcnt hrk0 hkm hpt hx hrest hs hpz hpd hpe hda he hle hrk hcps
  by_cases hmp : cd.mp < np
  · have tm : (cd.mp : Int) < (np : Int) := by omega
    have hL := Lib.hid (fun v => HL2.out v np (by omega) (by omega))
    clear hmp
    rcases hD with hD | ⟨hlt, hD⟩
    · have tD : (pth'.size : Int) ≤ (cp.size : Int) := by omega
      go_wp2_with fail
      go_quiet (fail)
      go_wp2
      refine HCORE.out _ _ _ _ _ (hL.out _) (Nat.le_refl _) ?_ ⟨rfl, rfl, rfl, rfl, rfl, rfl, rfl, rfl⟩
      first | rfl | (congr 1; omega) | go_num
    · have tD : decide ((pth'.size : Int) ≤ (cp.size : Int)) = false := by simp; omega
      go_wp2_with fail
      go_quiet (fail)
      go_wp2
      refine HCORE.out _ _ _ _ _ (hL.out _) (Nat.le_refl _) ?_ ⟨rfl, rfl, rfl, rfl, rfl, rfl, rfl, rfl⟩
      first | rfl | (congr 1; omega) | go_num
  · have tm : ¬ (cd.mp : Int) < (np : Int) := by omega
    have hmn : np ≤ cd.mp := by omega
    have HMN := Lib.hid hmn
    clear hmp hmn
    rcases hD with hD | ⟨hlt, hD⟩
    · have tD : (pth'.size : Int) ≤ (cp.size : Int) := by omega
      go_wp2_with fail
      go_quiet (fail)
      go_wp2
      refine HCORE.out _ _ _ _ _ (HL1.out _) HMN.out ?_ ⟨rfl, rfl, rfl, rfl, rfl, rfl, rfl, rfl⟩
      first | rfl | (congr 1; omega) | go_num
    · have tD : decide ((pth'.size : Int) ≤ (cp.size : Int)) = false := by simp; omega
      go_wp2_with fail
      go_quiet (fail)
      go_wp2
      refine HCORE.out _ _ _ _ _ (HL1.out _) HMN.out ?_ ⟨rfl, rfl, rfl, rfl, rfl, rfl, rfl, rfl⟩
      first | rfl | (congr 1; omega) | go_num


end Go.Proofs.Ytcobbbbnmepmfaa
