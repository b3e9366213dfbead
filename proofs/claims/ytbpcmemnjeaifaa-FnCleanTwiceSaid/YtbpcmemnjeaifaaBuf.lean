/- The contract of bufApp: the lazily made buffer takes one byte more. -/
import Derived.Test.YtbpcmemnjeaifaaRows
import Derived.WalkKit
import Derived.WalkSpells
import Derived.WalkLawsBesides
import Derived.Laws.CopyOwn
import Derived.Lib.Hide
import Derived.Lib.LazyBuf
import Derived.Deep.Draws
import Derived.Deep.OwnRows
import Derived.Laws.Strings3
import Derived.Lib.Walk
import Derived.Lib.Strings
namespace Go.Proofs.Ytbpcmemnjeaifaa
open Go.RowKit Go.Lib

/-- Block B is the variable 'buf' over the path s: it is nil, and c is s itself; or it is a whole row of L bytes, which holds c. -/
structure Bufd (B : Nat) (s : ByteArray) (L : Nat) (c : List UInt8) (w : World) : Prop where
  len : c.length = L
  st : (w.rowIs B 26 1 (fun _ => .slice none 0 0) ∧ c = s.data.toList) ∨ ∃ G, B < G ∧ w.rowIs B 26 1 (fun _ => .slice (some ⟨G, 0, none⟩) L L) ∧ w.rowIs G 5 L (Lz.bytes c)

theorem Bufd.drew {B : Nat} {s : ByteArray} {L : Nat} {c : List UInt8} {w : World} (h : Bufd B s L c w) : Bufd B s L c w.drew := by
  refine ⟨h.len, ?_⟩
  rcases h.st with ⟨hB, hc⟩ | ⟨G, hG, hB, hR⟩
  · exact .inl ⟨hB.drew, hc⟩
  · exact .inr ⟨G, hG, hB.drew, hR.drew⟩

theorem Try.info5 : (Try.prog.info? 5).map (fun i => (i.zero, i.size, i.bytes)) = some (some (Value.int IntKind.u8 0), 1, 1) := by kernel_rfl
theorem Try.size5 : ∀ w, (Go.sizeOf 5).run Try.prog w = .ok 1 w := by
  intro w
  obtain ⟨i, hi, _, h1, _⟩ := info_parts Try.info5
  simp [sizeOf, typeInfo, hi, h1]

theorem bytes_set {G L : Nat} {c : List UInt8} {w : World} (hR : w.rowIs G 5 L (Lz.bytes c)) (hlen : c.length = L) (wv : Nat) (x : UInt8) : (w.setCell ⟨G, wv, none⟩ (.int .u8 (x.toNat : Int))).rowIs G 5 L (Lz.bytes (c.set wv x)) := by
  refine (hR.set wv _).congr (fun j hj => ?_)
  unfold Lz.bytes
  by_cases h : j = wv
  · subst h
    rw [if_pos rfl, List.getElem?_set_self (by rw [hlen]; exact hj)]
    rfl
  · rw [if_neg h, List.getElem?_set_ne (by omega)]

set_option maxHeartbeats 2000000 in
set_option maxRecDepth 100000 in
theorem bufApp_any (B : Nat) (s : ByteArray) (L : Nat) (c : List UInt8) (wv : Nat) (x : UInt8) (w : World) (hz : Bufd B s L c w) (hw : wv < L) (hbig : L ≤ 281474976710656) :
    Calls Try.prog 9 #[.pointer (some ⟨B, 0, none⟩), .string s, .int .i64 wv, .int .u8 (x.toNat : Int)] w fun e w' => e = .returned (.tuple #[]) ∧ ∃ c', Bufd B s L c' w' ∧ c'.take (wv + 1) = c.take wv ++ [x] ∧ Below B w w' := by
  have q1 := fun a l c w => Go.run_eql_slice_nil (P := Try.prog) w 26 5 a l c Try.underlying26
  have b0 : (0 : Int) ≤ (wv : Int) := by omega
  have f0 : w.frozen? ⟨B, 0, none⟩ = false := by rcases hz.st with ⟨hB, _⟩ | ⟨G, _, hB, _⟩ <;> exact hB.frozen 0
  rcases hz.st with ⟨hB, hc⟩ | ⟨G, hG, hB, hR⟩
  · have c1 : w.cell? ⟨B, 0, none⟩ = some (.slice none 0 0) := hB.cell (i := 0) (by omega)
    have hLs : L = s.size := by rw [← hz.len, hc, ← Lib.size_eq]
    subst hLs
    have b1 : (wv : Int) < (s.size : Int) := by omega
    have hat : c[wv]? = some (s[wv]'hw) := by rw [hc]; exact Pa.at_eq s wv hw
    by_cases hx : (s[wv]'hw) = x
    · have ht : (((s[wv]'hw).toNat : Int) == (x.toNat : Int)) = true := by rw [hx]; simp
      have HZ : Hid (Bufd B s s.size c w) := hz
      have HA : Hid (c[wv]? = some (s[wv]'hw)) := hat
      clear hz hat hB hc
      go_enter Try.func9, Try.ntmps9
      go_wp2
      (try simp only [Exit.inBlock, Exit.then]); refine bodyPost_ret (results_none rfl _ _ _) rfl ?_
      exact ⟨rfl, c, HZ.out, Lz.take_same c wv x (by rw [HA.out, hx]), Below.refl B w⟩
    · have ht : (((s[wv]'hw).toNat : Int) == (x.toNat : Int)) = false := by rw [Pa.beq_lit]; simpa using hx
      have hmk : ∀ w : World, (Instr.makeSlice 26 (.int .i64 (s.size : Int)) (.int .i64 (s.size : Int))).run Try.prog w = .ok (.slice (some ⟨w.heap.size, 0, none⟩) s.size s.size) (w.alloc (.cells (madeCells #[.int .u8 0] s.size) 5)) := fun w =>
        run_make_row' (P := Try.prog) 26 5 (.int .u8 0) 1 Try.underlying26 Try.info5 rfl .i64 .i64 s.size (by omega) (by omega) w
      have hB1 : ∀ o, (w.alloc o).rowIs B 26 1 (fun _ => .slice none 0 0) := fun o => hB.alloc o
      have c1a : ∀ o, (w.alloc o).cell? ⟨B, 0, none⟩ = some (.slice none 0 0) := fun o => (hB1 o).cell (i := 0) (by omega)
      have f1a : ∀ o, (w.alloc o).frozen? ⟨B, 0, none⟩ = false := fun o => (hB1 o).frozen 0
      obtain ⟨W3, hW3⟩ : ∃ W3, (w.alloc (.cells (madeCells #[.int .u8 0] s.size) 5)).setCell ⟨B, 0, none⟩ (.slice (some ⟨w.heap.size, 0, none⟩) s.size s.size) = W3 := ⟨_, rfl⟩
      have hBG : B < w.heap.size := hB.lt
      have hB3 : W3.rowIs B 26 1 (fun _ => .slice (some ⟨w.heap.size, 0, none⟩) s.size s.size) := by
        rw [← hW3]
        exact ((hB1 _).set 0 _).congr (fun j hj => by rw [if_pos (by omega)])
      have hG3 : W3.rowIs w.heap.size 5 s.size (fun _ => .int .u8 0) := by
        rw [← hW3]
        exact (World.rowIs_made w (.int .u8 0) s.size 5).setOther (by show w.heap.size ≠ B; omega) _
      have hL3 : Below B w W3 := by
        rw [← hW3]
        exact ((Below.refl B w).alloc (by omega) _).setCell (Nat.le_refl _) _
      have c03 : W3.cell? ⟨B, 0, none⟩ = some (.slice (some ⟨w.heap.size, 0, none⟩) s.size s.size) := hB3.cell (i := 0) (by omega)
      have hts : (s.extract 0 wv).size = wv := Pa.extract_upto_size s wv (by omega)
      have b2 : (wv : Int) ≤ (s.size : Int) := by omega
      have HC : Hid (c = s.data.toList) := hc
      have HL : Hid (c.length = s.size) := hz.len
      clear hz hat hB hc
      go_enter Try.func9, Try.ntmps9
      go_wp2
      go_region_law (refine step_copy_string rfl (.tmp 24) (.tmp 27) 26 9 rfl 5 Try.underlying26 Try.size5 w.heap.size 0 s.size s.size (by simp [Act.eval]) (s.extract 0 wv) (by simp [Act.eval]) (by omega) (fun j hj => by rw [Nat.zero_add, hG3.drew.cell (i := j) (by omega)]; rfl) (fun j _ => hG3.drew.frozen _) ?_)
      all_goals (
        have hG4 := (rowIs_setCells (List.take wv (List.map (fun x : UInt8 => Value.int .u8 (x.toNat : Int)) s.data.toList)) 0 _ _ hG3.drew).congr (g := Lz.bytes (s.data.toList.take wv ++ List.replicate (s.size - wv) 0)) (fun j _ => by rw [← List.map_take]; exact Lz.bytes_copied (s.data.toList.take wv) (s.size - wv) j)
        have hB4 := rowIs_setCells_other (b := w.heap.size) (by omega) (List.take wv (List.map (fun x : UInt8 => Value.int .u8 (x.toNat : Int)) s.data.toList)) 0 _ hB3.drew
        have hL4 := below_setCells (b := w.heap.size) (by omega) (List.take wv (List.map (fun x : UInt8 => Value.int .u8 (x.toNat : Int)) s.data.toList)) 0 _ hL3.drew
        generalize W3.drew.setCells w.heap.size 0 (List.take wv (List.map (fun x : UInt8 => Value.int .u8 (x.toNat : Int)) s.data.toList)) = W4 at hG4 hB4 hL4 ⊢
        have c14 : W4.cell? ⟨B, 0, none⟩ = some (.slice (some ⟨w.heap.size, 0, none⟩) s.size s.size) := hB4.cell (i := 0) (by omega)
        have cg4 : W4.cell? ⟨w.heap.size, wv, none⟩ = some (Lz.bytes (s.data.toList.take wv ++ List.replicate (s.size - wv) 0) wv) := hG4.cell hw
        have fg4 : W4.frozen? ⟨w.heap.size, wv, none⟩ = false := hG4.frozen _
        have hl4 : (s.data.toList.take wv ++ List.replicate (s.size - wv) (0 : UInt8)).length = s.size := by rw [List.length_append, List.length_take, List.length_replicate, ← Lib.size_eq]; omega
        have HL4 : Hid ((s.data.toList.take wv ++ List.replicate (s.size - wv) (0 : UInt8)).length = s.size) := hl4
        clear hl4
        go_wp2
        go_end0
        refine ⟨rfl, (s.data.toList.take wv ++ List.replicate (s.size - wv) 0).set wv x, ⟨by rw [List.length_set]; exact HL4.out, .inr ⟨w.heap.size, hBG, hB4.setOther (by show B ≠ w.heap.size; omega) _, ?_⟩⟩, ?_, ?_⟩
        · exact bytes_set hG4 HL4.out wv x
        · rw [Lz.take_set _ wv x (by rw [HL4.out]; exact hw), HC.out, List.take_append_of_le_length (by rw [List.length_take, ← Lib.size_eq]; omega), List.take_take, Nat.min_self]
        · exact (hL4.setCell (by show B ≤ w.heap.size; omega) _))
  · have c1 : w.cell? ⟨B, 0, none⟩ = some (.slice (some ⟨G, 0, none⟩) L L) := hB.cell (i := 0) (by omega)
    have cg : w.cell? ⟨G, wv, none⟩ = some (Lz.bytes c wv) := hR.cell hw
    have fg : w.frozen? ⟨G, wv, none⟩ = false := hR.frozen _
    have b1 : (wv : Int) < (L : Int) := by omega
    have HL : Hid (c.length = L) := hz.len
    clear hz
    go_enter Try.func9, Try.ntmps9
    go_wp2
    go_end0
    exact ⟨rfl, c.set wv x, ⟨by rw [List.length_set]; exact HL.out, .inr ⟨G, hG, hB.setOther (by show B ≠ G; omega) _, bytes_set hR HL.out wv x⟩⟩, Lz.take_set c wv x (by rw [HL.out]; exact hw), (Below.refl B w).setCell (by show B ≤ G; omega) _⟩

end Go.Proofs.Ytbpcmemnjeaifaa
