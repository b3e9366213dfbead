/- addRoute's round: the lower node's maxParams. -/
import Derived.Test.YtcobbbbnmepmfaaRoMid
import Derived.Deep.QuietTactic
import Derived.BigQuiet
namespace Go.Proofs.Ytcobbbbnmepmfaa
open Go Go.RowKit Go.Lib Tr

def KidsPost (w : World) (b : Nat) (pth full : ByteArray) (n np i : Nat) (px ix : ByteArray) (bw : Bool) (pr : Int) (ka : Option Addr) (len kc : Nat) (hv : Value) (a' : Act) (w' : World) : Prop :=
  ∃ m q : Nat, (Fr a' (.pointer (some ⟨b, 0, none⟩)) (.string pth) (.iface 3 (.int .i64 (n : Int))) (.string full) (.int .u8 (np : Int)) (.int .i64 (i : Int)) ∧ a'.tmps.getD 10 undef = .pointer (some ⟨w.heap.size, 0, none⟩)) ∧ w' = (w.alloc (.cells #[.string px, .bool bw, .int .u8 0, .int .u8 (m : Int), .int .u32 pr, .string ix, .slice ka len kc, hv] 65)).drewN q

set_option maxHeartbeats 16000000 in
set_option maxRecDepth 100000 in
theorem ro_kids {w0 w : World} {T0 : HT} {tag : Tag} {b : Nat} {d : Dec} {p : ByteArray} {h : Option Nat} {kids : List HT} {s0 s : List Tok} {n np : Nat} {full pth : ByteArray} {i : Nat} {px ix : ByteArray} {bw : Bool} {pr : Int} {ka : Option Addr} {kc q0 : Nat} {hv : Value} (x3 x4 x5 x9 x11 x12 x13 x14 x15 x16 x17 x18 x19 x20 x21 x22 x23 x24 x25 x26 x27 x28 x29 x30 x31 x32 x33 x34 x35 x36 x37 x38 x39 x40 x41 x42 x43 x44 x45 x46 x47 x48 x49 x50 x51 x52 x53 x54 x55 x56 x57 x58 x59 x60 x61 x62 x63 x64 x65 x66 x67 x68 x69 x70 x71 x72 x73 x74 x75 x76 x77 x78 x79 x80 x81 x82 x83 x84 x85 x86 x87 x88 x89 x90 x91 x92 x93 x94 x95 x96 x97 x98 x99 x100 x101 x102 x103 x104 x105 x106 x107 x108 x109 x110 x111 x112 x113 x114 x115 x116 x117 x118 x119 x120 x121 x122 x123 x124 x125 x126 x127 x128 x129 x130 x131 x132 x133 x134 x135 x136 x137 x138 x139 x140 x141 x142 x143 x144 x145 x146 x147 x148 x149 x150 x151 x152 x153 x154 x155 x156 x157 x158 x159 x160 x161 x162 x163 x164 x165 x166 x167 x168 x169 x170 x171 x172 x173 x174 x175 x176 x177 x178 x179 x180 x181 x182 x183 x184 x185 x186 x187 x188 x189 x190 x191 x192 x193 x194 x195 x196 x197 x198 x199 x200 x201 x202 x203 x204 x205 x206 x207 x208 x209 x210 x211 x212 x213 x214 x215 x216 x217 x218 x219 x220 x221 x222 x223 x224 x225 x226 x227 x228 x229 x230 x231 x232 x233 x234 x235 x236 x237 x238 x239 x240 x241 x242 x243 x244 x245 x246 x247 x248 x249 x250 x251 x252 x253 x254 x255 x256 x257 x258 x259 x260 x261 x262 x263 x264 x265 x266 x267 x268 x269 x270 x271 x272 x273 x274 x275 x276 x277 x278 x279 x280 x281 x282 x283 x284 x285 x286 x287 x288 x289 x290 x291 x292 x293 x294 x295 x296 x297 x298 x299 x300 x301 x302 x303 x304 x305 x306 x307 x308 x309 x310 x311 x312 x313 x314 x315 x316 x317 x318 x319 x320 x321 x322 x323 x324 x325 x326 x327 x328 x329 x330 x331 x332 x333 x334 x335 x336 x337 x338 x339 x340 x341 x342 x343 x344 x345 x346 x347 x348 x349 x350 x351 x352 x353 x354 x355 x356 x357 x358 x359 x360 x361 x362 x363 x364 x365 x366 x367 x368 x369 x370 x371 x372 x373 x374 x375 x376 x377 x378 x379 x380 x381 x382 x383 x384 x385 x386 x387 x388 x389 x390 x391 x392 x393 x394 x395 x396 x397 x398 x399 x400 x401 x402 x403 x404 x405 x406 x407 x408 x409 x410 x411 x412 x413 x414 x415 x416 x417 x418 x419 : Value) (HA : Hid (AddAt w0 T0 s0 n full pth (.mk tag b d p h kids) s np w)) (HKC : Hid (arrV d.arr kids.length = .slice ka kids.length kc)) {K : Act → World → Prop} {Q : Exit → Act → World → Prop} (hK : ∀ a' w', KidsPost w b pth full n np i px ix bw pr ka kids.length kc hv a' w' → K a' w') :
    roCk.wp Try.prog (Exit.then K Q) ⟨#[.pointer (some ⟨b, 0, none⟩), .string pth, .iface 3 (.int .i64 (n : Int)), x3, x4, x5, .string full, .int .u8 (np : Int), .int .i64 (i : Int), x9, .pointer (some ⟨w.heap.size, 0, none⟩), x11, x12, x13, x14, x15, x16, x17, x18, x19, x20, x21, x22, x23, x24, x25, x26, x27, x28, x29, x30, x31, x32, x33, x34, x35, x36, x37, x38, x39, x40, x41, x42, x43, x44, x45, x46, x47, x48, x49, x50, x51, x52, x53, x54, x55, x56, x57, x58, x59, x60, x61, x62, x63, x64, x65, x66, x67, x68, x69, x70, x71, x72, x73, x74, x75, x76, x77, x78, x79, x80, x81, x82, x83, x84, x85, x86, x87, x88, x89, x90, x91, x92, x93, x94, x95, x96, x97, x98, x99, x100, x101, x102, x103, x104, x105, x106, x107, x108, x109, x110, x111, x112, x113, x114, x115, x116, x117, x118, x119, x120, x121, x122, x123, x124, x125, x126, x127, x128, x129, x130, x131, x132, x133, x134, x135, x136, x137, x138, x139, x140, x141, x142, x143, x144, x145, x146, x147, x148, x149, x150, x151, x152, x153, x154, x155, x156, x157, x158, x159, x160, x161, x162, x163, x164, x165, x166, x167, x168, x169, x170, x171, x172, x173, x174, x175, x176, x177, x178, x179, x180, x181, x182, x183, x184, x185, x186, x187, x188, x189, x190, x191, x192, x193, x194, x195, x196, x197, x198, x199, x200, x201, x202, x203, x204, x205, x206, x207, x208, x209, x210, x211, x212, x213, x214, x215, x216, x217, x218, x219, x220, x221, x222, x223, x224, x225, x226, x227, x228, x229, x230, x231, x232, x233, x234, x235, x236, x237, x238, x239, x240, x241, x242, x243, x244, x245, x246, x247, x248, x249, x250, x251, x252, x253, x254, x255, x256, x257, x258, x259, x260, x261, x262, x263, x264, x265, x266, x267, x268, x269, x270, x271, x272, x273, x274, x275, x276, x277, x278, x279, x280, x281, x282, x283, x284, x285, x286, x287, x288, x289, x290, x291, x292, x293, x294, x295, x296, x297, x298, x299, x300, x301, x302, x303, x304, x305, x306, x307, x308, x309, x310, x311, x312, x313, x314, x315, x316, x317, x318, x319, x320, x321, x322, x323, x324, x325, x326, x327, x328, x329, x330, x331, x332, x333, x334, x335, x336, x337, x338, x339, x340, x341, x342, x343, x344, x345, x346, x347, x348, x349, x350, x351, x352, x353, x354, x355, x356, x357, x358, x359, x360, x361, x362, x363, x364, x365, x366, x367, x368, x369, x370, x371, x372, x373, x374, x375, x376, x377, x378, x379, x380, x381, x382, x383, x384, x385, x386, x387, x388, x389, x390, x391, x392, x393, x394, x395, x396, x397, x398, x399, x400, x401, x402, x403, x404, x405, x406, x407, x408, x409, x410, x411, x412, x413, x414, x415, x416, x417, x418, x419], []⟩ ((w.alloc (.cells #[.string px, .bool bw, .int .u8 0, .int .u8 ((0 : Nat) : Int), .int .u32 pr, .string ix, .slice ka kids.length kc, hv] 65)).drewN q0) := by
  conv => arg 2; whnf
  have hlen : kids.length ≤ 9223372036854775807 := by
    have h2 := HA.out.rep.node.2
    cases hda : d.arr with
    | none => simp only [hda] at h2; rw [h2]; simp
    | some q =>
      obtain ⟨g, sp⟩ := q
      simp only [hda] at h2
      have := h2.2
      have hm : maxLen ≤ 9223372036854775807 := by decide
      omega
  go_wp2_with fail
  go_loopg [115] kids.length (fun k v wr => ∃ (j m q : Nat), v = .int .i64 (j : Int) ∧ j ≤ kids.length ∧ Hid (k = kids.length - j) ∧ wr = (w.alloc (.cells #[.string px, .bool bw, .int .u8 0, .int .u8 (m : Int), .int .u32 pr, .string ix, .slice ka kids.length kc, hv] 65)).drewN q)
  case atStart => exact ⟨0, 0, q0, rfl, by omega, (by show _ = _; omega), rfl⟩
  case round =>
    obtain ⟨j, m, q, rfl, hj, HK, rfl⟩ := hrel
    by_cases hlt : j < kids.length
    · have tlt : (j : Int) < (kids.length : Int) := by omega
      obtain ⟨A, k, B, hkids, hAl⟩ : ∃ A k B, kids = A ++ k :: B ∧ A.length = j := ⟨kids.take j, kids[j], kids.drop (j + 1), by rw [← List.drop_eq_getElem_cons hlt, List.take_append_drop], by simp; omega⟩
      obtain ⟨g, sp, hda⟩ : ∃ g sp, d.arr = some (g, sp) := by
        have h2 := HA.out.rep.node.2
        cases hda : d.arr with
        | none => simp only [hda] at h2; rw [h2] at hlt; simp at hlt
        | some q => exact ⟨q.1, q.2, rfl⟩
      have hka : ka = some ⟨g, 0, none⟩ := by
        have h3 := HKC.out
        rw [hda] at h3
        simp only [arrV, Value.slice.injEq] at h3
        exact h3.1.symm
      subst hka
      have hrep := HA.out.rep
      have hkm : k ∈ kids := by rw [hkids]; simp
      have hg : w.cell? ⟨g, j, none⟩ = some (.pointer (some ⟨k.b, 0, none⟩)) := by
        rw [hkids] at hrep
        rw [← hAl]
        exact hrep.kidcell hda
      have hrk : Rep w k := HA.out.rep.kid (t := .mk tag b d p h kids) hkm
      obtain ⟨km, kb, hkb, hkc3⟩ : ∃ km kb, k.b = kb ∧ w.cell? ⟨kb, 3, none⟩ = some (.int .u8 ((km : Nat) : Int)) := by
        cases k with
        | mk ktag kb kd kp kh kk => exact ⟨kd.mp, kb, rfl, hrk.c3⟩
      have gN : w.heap.size ≠ g := by
        have : g < w.heap.size := HA.out.rep.lt g (by rw [blocks_mk]; unfold own; simp [hda])
        omega
      have kN : w.heap.size ≠ kb := by
        have : k.b < w.heap.size := hrk.lt _ (mem_blocks_self k)
        omega
      rw [hkb] at hg
      have hW : ∀ (x k : Nat) (v : Value), x ≠ w.heap.size → x < w.heap.size → w.cell? ⟨x, k, none⟩ = some v → (w.alloc (.cells #[.string px, .bool bw, .int .u8 0, .int .u8 (m : Int), .int .u32 pr, .string ix, .slice (some ⟨g, 0, none⟩) kids.length kc, hv] 65)).cell? ⟨x, k, none⟩ = some v := fun x k v _ h1 h2 => (World.cell?_alloc_lt w _ ⟨x, k, none⟩ h1).trans h2
      have hg' := hW g j _ (fun e => gN e.symm) (HA.out.rep.lt g (by rw [blocks_mk]; unfold own; simp [hda])) hg
      have hk' := hW kb 3 _ (fun e => kN e.symm) (by rw [← hkb]; exact hrk.lt _ (mem_blocks_self k)) hkc3
      clear hW hrk hrep hkm hkids hAl hda hkb hlt
      go_wp2_with fail
      by_cases hmp : m < km
      · have tm : (m : Int) < (km : Int) := by omega
        clear hmp
        go_quiet (fail)
        go_wp2
        go_roundg (kids.length - (j + 1))
        case measure => rw [HK.out]; omega
        case rel => exact ⟨j + 1, km, _, by go_num, by omega, rfl, low_set _ _ _ _ _ _⟩
      · have tm : ¬ (m : Int) < (km : Int) := by omega
        clear hmp
        go_quiet (fail)
        go_wp2
        go_roundg (kids.length - (j + 1))
        case measure => rw [HK.out]; omega
        case rel => exact ⟨j + 1, m, _, by go_num, by omega, rfl, rfl⟩
    · have tlt : ¬ (j : Int) < (kids.length : Int) := by omega
      clear hlt
      go_wp2
      exact ⟨m, q, ⟨⟨rfl, rfl, rfl, rfl, rfl, rfl, rfl, rfl⟩, rfl⟩, rfl⟩

end Go.Proofs.Ytcobbbbnmepmfaa
