/- addRoute's round: the upper node behind the split. -/
import Derived.Test.YtcobbbbnmepmfaaRoMid
import Derived.Deep.QuietTactic
import Derived.BigQuiet
import Derived.BigRegion
import Derived.Laws.IdiomStrings
namespace Go.Proofs.Ytcobbbbnmepmfaa
open Go Go.RowKit Go.Lib Tr

theorem string_one (w : World) (u : UInt8) (g : Nat) (hg : g = w.heap.size) :
    (convert 69 9 (.slice (some ⟨g, 0, none⟩) 1 1)).run Try.prog (w.alloc (.cells #[.int .u8 (u.toNat : Int)] 5)) = .ok (.string ⟨#[u]⟩) (w.alloc (.cells #[.int .u8 (u.toNat : Int)] 5)) := by
  subst hg
  refine run_convert_bytes_back (w.alloc (.cells #[.int .u8 (u.toNat : Int)] 5)) _ _ _ ⟨w.heap.size, 0, none⟩ 1 [u] Try.underlying69 Try.underlying5 Try.underlying9 ?_
  intro j hj
  have hj0 : j = 0 := by simpa using hj
  subst hj0
  exact cell_of_row8 (alloc_at _ _) 0

theorem Lcp.take {a b : ByteArray} {i : Nat} (h : Lcp a b i) : b.data.toList.take i = a.data.toList.take i := by
  apply List.ext_getElem?
  intro j
  by_cases hj : j < i
  · rw [List.getElem?_take_of_lt hj, List.getElem?_take_of_lt hj, h.eq j hj]
  · rw [List.getElem?_eq_none (by rw [List.length_take]; omega), List.getElem?_eq_none (by rw [List.length_take]; omega)]

theorem AddAt.upper {w0 w W : World} {T0 : HT} {tag : Tag} {b : Nat} {d d2 : Dec} {p : ByteArray} {h : Option Nat} {kids : List HT} {s0 s : List Tok} {n np i q0 : Nat} {full pth : ByteArray} {u : UInt8}
    (ha : AddAt w0 T0 s0 n full pth (.mk tag b d p h kids) s np w) (hl : Lcp p pth i) (hi : i < p.size) (hu : p.data.toList[i]? = some u)
    (hW : W = (w.alloc (.cells (vals tag d2 (p.extract i p.size) h kids.length) 65)).drewN q0) (ha2 : d2.arr = d.arr) (hix2 : d2.ix = d.ix) (hnt2 : d2.nt < 2) :
    AddAt w0 T0 s0 n full pth (.mk .st b { d with ix := ⟨#[u]⟩, arr := some (w.heap.size + 1, []) } (pth.extract 0 i) none [.mk tag w.heap.size d2 (p.extract i p.size) h kids]) s np
      (((((((W.setCell ⟨b, 6, none⟩ (.slice (some ⟨W.heap.size, 0, none⟩) 1 1)).setCell ⟨b, 5, none⟩ (.string ⟨#[u]⟩)).setCell ⟨b, 0, none⟩ (.string (pth.extract 0 i))).setCell ⟨b, 7, none⟩ .nilIface).setCell ⟨b, 1, none⟩ (.bool false)).alloc
          (.cells #[.pointer (some ⟨w.heap.size, 0, none⟩)] 76)).alloc (.cells #[.int .u8 (u.toNat : Int)] 5)) := by
  obtain ⟨hst, hi0, _⟩ := ha.lcp_less hl hi
  have hblt : b < w.heap.size := ha.rep.blt
  have hsz : W.heap.size = w.heap.size + 1 := by rw [hW]; simp
  obtain ⟨ty, hrow⟩ := ha.rep.row
  have hrowW : W.heap[b]? = some (.cells (vals tag d p h kids.length) ty (0, 0)) := by
    rw [hW]
    exact (alloc_lt w _ hblt).trans hrow
  have hlowW : W.heap[w.heap.size]? = some (.cells (vals tag d2 (p.extract i p.size) h kids.length) 65 (0, 0)) := by
    rw [hW]
    exact alloc_at w _
  obtain ⟨V, hV⟩ : ∃ V, V = ((((W.setCell ⟨b, 6, none⟩ (.slice (some ⟨W.heap.size, 0, none⟩) 1 1)).setCell ⟨b, 5, none⟩ (.string ⟨#[u]⟩)).setCell ⟨b, 0, none⟩ (.string (pth.extract 0 i))).setCell ⟨b, 7, none⟩ .nilIface).setCell ⟨b, 1, none⟩ (.bool false) := ⟨_, rfl⟩
  rw [← hV]
  have hVs : V.heap.size = w.heap.size + 1 := by rw [hV]; simpa [World.setCell] using hsz
  have hkW : Kept [b] w W := by rw [hW]; exact ((Kept.refl [b] w).alloc _).drewN q0
  have hkV : Kept [b] w V := by
    rw [hV]
    exact ((((hkW.setCell (.inl (by simp)) _).setCell (.inl (by simp)) _).setCell (.inl (by simp)) _).setCell (.inl (by simp)) _).setCell (.inl (by simp)) _
  have hkVW : Kept [b] W V := by
    rw [hV]
    exact (((((Kept.refl [b] W).setCell (.inl (by simp)) _).setCell (.inl (by simp)) _).setCell (.inl (by simp)) _).setCell (.inl (by simp)) _).setCell (.inl (by simp)) _
  have hlowV : V.heap[w.heap.size]? = some (.cells (vals tag d2 (p.extract i p.size) h kids.length) 65 (0, 0)) := (hkVW.block _ (by omega) (by simp; omega)).trans hlowW
  have hrowV := row_set (row_set (row_set (row_set (row_set hrowW 6 (.slice (some ⟨W.heap.size, 0, none⟩) 1 1)) 5 (.string ⟨#[u]⟩)) 0 (.string (pth.extract 0 i))) 7 .nilIface) 1 (.bool false)
  rw [← hV] at hrowV
  have hnt : d.nt < 2 := by
    have := ha.wf.top
    rcases hst with rfl | rfl
    · exact this.1
    · exact this.1
  have hpl : i < p.data.toList.length := hi
  refine ha.split (N := w.heap.size) hst hpl hi0 rfl ((hkV.alloc _).alloc _) ⟨ty, ?_⟩ rfl ?_ ⟨65, ?_⟩ ha2 hix2 hnt2 hnt ?_ ?_ ⟨u, hu, rfl⟩
  · rw [alloc_lt _ _ (by rw [alloc_size]; omega), alloc_lt _ _ (by omega), hrowV, hsz]
    rcases hst with rfl | rfl <;> rfl
  · rw [alloc_lt _ _ (by rw [alloc_size]; omega), ← hVs]
    exact alloc_at _ _
  · rw [alloc_lt _ _ (by rw [alloc_size]; omega), alloc_lt _ _ (by omega)]
    exact hlowV
  · rw [Lib.extract_data, List.drop_zero]
    simpa using hl.take
  · exact Lib.extract_to_end p i

set_option maxHeartbeats 16000000 in
set_option maxRecDepth 100000 in
theorem ro_upper {w0 w : World} {T0 : HT} {tag : Tag} {b : Nat} {d : Dec} {p : ByteArray} {h : Option Nat} {kids : List HT} {s0 s : List Tok} {n np : Nat} {full pth : ByteArray} {i m q0 : Nat} {px ix : ByteArray} {bw : Bool} {pr : Int} {ka : Option Addr} {kc : Nat} {hv : Value} (x3 x4 x5 x9 x11 x12 x13 x14 x15 x16 x17 x18 x19 x20 x21 x22 x23 x24 x25 x26 x27 x28 x29 x30 x31 x32 x33 x34 x35 x36 x37 x38 x39 x40 x41 x42 x43 x44 x45 x46 x47 x48 x49 x50 x51 x52 x53 x54 x55 x56 x57 x58 x59 x60 x61 x62 x63 x64 x65 x66 x67 x68 x69 x70 x71 x72 x73 x74 x75 x76 x77 x78 x79 x80 x81 x82 x83 x84 x85 x86 x87 x88 x89 x90 x91 x92 x93 x94 x95 x96 x97 x98 x99 x100 x101 x102 x103 x104 x105 x106 x107 x108 x109 x110 x111 x112 x113 x114 x115 x116 x117 x118 x119 x120 x121 x122 x123 x124 x125 x126 x127 x128 x129 x130 x131 x132 x133 x134 x135 x136 x137 x138 x139 x140 x141 x142 x143 x144 x145 x146 x147 x148 x149 x150 x151 x152 x153 x154 x155 x156 x157 x158 x159 x160 x161 x162 x163 x164 x165 x166 x167 x168 x169 x170 x171 x172 x173 x174 x175 x176 x177 x178 x179 x180 x181 x182 x183 x184 x185 x186 x187 x188 x189 x190 x191 x192 x193 x194 x195 x196 x197 x198 x199 x200 x201 x202 x203 x204 x205 x206 x207 x208 x209 x210 x211 x212 x213 x214 x215 x216 x217 x218 x219 x220 x221 x222 x223 x224 x225 x226 x227 x228 x229 x230 x231 x232 x233 x234 x235 x236 x237 x238 x239 x240 x241 x242 x243 x244 x245 x246 x247 x248 x249 x250 x251 x252 x253 x254 x255 x256 x257 x258 x259 x260 x261 x262 x263 x264 x265 x266 x267 x268 x269 x270 x271 x272 x273 x274 x275 x276 x277 x278 x279 x280 x281 x282 x283 x284 x285 x286 x287 x288 x289 x290 x291 x292 x293 x294 x295 x296 x297 x298 x299 x300 x301 x302 x303 x304 x305 x306 x307 x308 x309 x310 x311 x312 x313 x314 x315 x316 x317 x318 x319 x320 x321 x322 x323 x324 x325 x326 x327 x328 x329 x330 x331 x332 x333 x334 x335 x336 x337 x338 x339 x340 x341 x342 x343 x344 x345 x346 x347 x348 x349 x350 x351 x352 x353 x354 x355 x356 x357 x358 x359 x360 x361 x362 x363 x364 x365 x366 x367 x368 x369 x370 x371 x372 x373 x374 x375 x376 x377 x378 x379 x380 x381 x382 x383 x384 x385 x386 x387 x388 x389 x390 x391 x392 x393 x394 x395 x396 x397 x398 x399 x400 x401 x402 x403 x404 x405 x406 x407 x408 x409 x410 x411 x412 x413 x414 x415 x416 x417 x418 x419 : Value) (hps : pth.size ≤ 2147483647) (hnp : np ≤ 20) (HA : Hid (AddAt w0 T0 s0 n full pth (.mk tag b d p h kids) s np w)) (HL : Hid (Lcp p pth i)) (hi : i < p.size) (HKC : Hid (arrV d.arr kids.length = .slice ka kids.length kc)) (HV : Hid (hV h = hv)) (HPX : Hid (px = p.extract i p.size ∧ ix = d.ix ∧ bw = tag.wild)) {K : Act → World → Prop} {Q : Exit → Act → World → Prop} (hK : ∀ a' w', MidAt w0 T0 s0 n full pth tag b s np a' w' → K a' w') :
    roCe.wp Try.prog (Exit.then K Q) ⟨#[.pointer (some ⟨b, 0, none⟩), .string pth, .iface 3 (.int .i64 (n : Int)), x3, x4, x5, .string full, .int .u8 (np : Int), .int .i64 (i : Int), x9, .pointer (some ⟨w.heap.size, 0, none⟩), x11, x12, x13, x14, x15, x16, x17, x18, x19, x20, x21, x22, x23, x24, x25, x26, x27, x28, x29, x30, x31, x32, x33, x34, x35, x36, x37, x38, x39, x40, x41, x42, x43, x44, x45, x46, x47, x48, x49, x50, x51, x52, x53, x54, x55, x56, x57, x58, x59, x60, x61, x62, x63, x64, x65, x66, x67, x68, x69, x70, x71, x72, x73, x74, x75, x76, x77, x78, x79, x80, x81, x82, x83, x84, x85, x86, x87, x88, x89, x90, x91, x92, x93, x94, x95, x96, x97, x98, x99, x100, x101, x102, x103, x104, x105, x106, x107, x108, x109, x110, x111, x112, x113, x114, x115, x116, x117, x118, x119, x120, x121, x122, x123, x124, x125, x126, x127, x128, x129, x130, x131, x132, x133, x134, x135, x136, x137, x138, x139, x140, x141, x142, x143, x144, x145, x146, x147, x148, x149, x150, x151, x152, x153, x154, x155, x156, x157, x158, x159, x160, x161, x162, x163, x164, x165, x166, x167, x168, x169, x170, x171, x172, x173, x174, x175, x176, x177, x178, x179, x180, x181, x182, x183, x184, x185, x186, x187, x188, x189, x190, x191, x192, x193, x194, x195, x196, x197, x198, x199, x200, x201, x202, x203, x204, x205, x206, x207, x208, x209, x210, x211, x212, x213, x214, x215, x216, x217, x218, x219, x220, x221, x222, x223, x224, x225, x226, x227, x228, x229, x230, x231, x232, x233, x234, x235, x236, x237, x238, x239, x240, x241, x242, x243, x244, x245, x246, x247, x248, x249, x250, x251, x252, x253, x254, x255, x256, x257, x258, x259, x260, x261, x262, x263, x264, x265, x266, x267, x268, x269, x270, x271, x272, x273, x274, x275, x276, x277, x278, x279, x280, x281, x282, x283, x284, x285, x286, x287, x288, x289, x290, x291, x292, x293, x294, x295, x296, x297, x298, x299, x300, x301, x302, x303, x304, x305, x306, x307, x308, x309, x310, x311, x312, x313, x314, x315, x316, x317, x318, x319, x320, x321, x322, x323, x324, x325, x326, x327, x328, x329, x330, x331, x332, x333, x334, x335, x336, x337, x338, x339, x340, x341, x342, x343, x344, x345, x346, x347, x348, x349, x350, x351, x352, x353, x354, x355, x356, x357, x358, x359, x360, x361, x362, x363, x364, x365, x366, x367, x368, x369, x370, x371, x372, x373, x374, x375, x376, x377, x378, x379, x380, x381, x382, x383, x384, x385, x386, x387, x388, x389, x390, x391, x392, x393, x394, x395, x396, x397, x398, x399, x400, x401, x402, x403, x404, x405, x406, x407, x408, x409, x410, x411, x412, x413, x414, x415, x416, x417, x418, x419], []⟩ ((w.alloc (.cells #[.string px, .bool bw, .int .u8 0, .int .u8 (m : Int), .int .u32 pr, .string ix, .slice ka kids.length kc, hv] 65)).drewN q0) := by
  have kc0 := fun (w : World) (u : UInt8) (g : Nat) (hg : g = w.heap.size) => string_one w u g hg
  conv => arg 2; whnf
  obtain ⟨W, hW⟩ : ∃ W, W = (w.alloc (.cells #[.string px, .bool bw, .int .u8 0, .int .u8 (m : Int), .int .u32 pr, .string ix, .slice ka kids.length kc, hv] 65)).drewN q0 := ⟨_, rfl⟩
  rw [← hW]
  have hblt : b < w.heap.size := HA.out.rep.blt
  have hsz : W.heap.size = w.heap.size + 1 := by rw [hW]; simp
  obtain ⟨ty, hrow⟩ := HA.out.rep.row
  have hrowW : W.heap[b]? = some (.cells (vals tag d p h kids.length) ty (0, 0)) := by
    rw [hW]
    exact (alloc_lt w _ hblt).trans hrow
  have hc0 : W.cell? ⟨b, 0, none⟩ = some (.string p) := cell_of_row8 hrowW 0
  have hc1 : W.cell? ⟨b, 1, none⟩ = some (.bool tag.wild) := cell_of_row8 hrowW 1
  have hc5 : W.cell? ⟨b, 5, none⟩ = some (.string d.ix) := cell_of_row8 hrowW 5
  have hc6 : W.cell? ⟨b, 6, none⟩ = some (.slice ka kids.length kc) := by rw [← HKC.out]; exact cell_of_row8 hrowW 6
  have hc7 : W.cell? ⟨b, 7, none⟩ = some hv := by rw [← HV.out]; exact cell_of_row8 hrowW 7
  have hf0 : W.frozen? ⟨b, 0, none⟩ = false := free_of_row8 hrowW 0
  have hf1 : W.frozen? ⟨b, 1, none⟩ = false := free_of_row8 hrowW 1
  have hf5 : W.frozen? ⟨b, 5, none⟩ = false := free_of_row8 hrowW 5
  have hf6 : W.frozen? ⟨b, 6, none⟩ = false := free_of_row8 hrowW 6
  have hf7 : W.frozen? ⟨b, 7, none⟩ = false := free_of_row8 hrowW 7
  have hbW : b < W.heap.size := by omega
  have HW := Lib.hid hW
  have HSZ := Lib.hid hsz
  have HROW := Lib.hid hrowW
  clear hW hsz hrowW hrow hblt
  have hip : i ≤ pth.size := HL.out.lb
  have t1 : (i : Int) ≤ (pth.size : Int) := by omega
  have t2 : (i : Int) < (p.size : Int) := by omega
  have hpi : i < p.data.toList.length := hi
  have hu : p.data.toList[i]? = some (p[i]'hi) := by rw [List.getElem?_eq_getElem hpi]; rfl
  obtain ⟨hst, hi0, hmid⟩ := HA.out.lcp_less HL.out hi
  obtain ⟨e1, e2, e3⟩ := HPX.out
  have hWW : W = (w.alloc (.cells (vals tag ⟨0, m, pr, d.ix, d.arr⟩ (p.extract i p.size) h kids.length) 65)).drewN q0 := by
    rw [HW.out, e1, e2, e3, ← HV.out, ← HKC.out]
    rcases hst with rfl | rfl <;> rfl
  have HUP := Lib.hid (HA.out.upper HL.out hi hu hWW rfl rfl (by show (0 : Nat) < 2; omega))
  have hps1 : (pth.extract 0 i).size = i := by rw [ByteArray.size_extract]; omega
  have hMID := hmid (pth.extract 0 i) (by rw [Lib.extract_data]; simpa using HL.out.take)
  have hrk : rk pth .st = rk pth tag := by rcases hst with rfl | rfl <;> rfl
  have HFIN : Hid (((pth.extract 0 i).size = i) ∧ Mid (.mk .st b ⟨0, 0, 0, ⟨#[]⟩, none⟩ (pth.extract 0 i) none []) s (pth.data.toList.drop i) ∧ rk pth .st = rk pth tag) := ⟨hps1, hMID, hrk⟩
  clear hpi hu hst hi0 hmid e1 e2 e3 hWW hps1 hMID hrk
  go_wp2
  obtain ⟨hps1, hMID, hrk⟩ := HFIN.out
  refine ⟨.st, pth.extract 0 i, none, _, ⟨?_, hps, hnp, _, HUP.out⟩, ⟨by rw [hps1]; omega, ?_⟩, hrk⟩
  · rw [hps1]
    exact ⟨rfl, rfl, rfl, rfl, rfl, rfl, rfl, rfl⟩
  · rw [hps1]
    exact ⟨hMID.or⟩

end Go.Proofs.Ytcobbbbnmepmfaa
