/- incrementChildPrio: a child moves ahead among its parent's children, its byte with it. -/
import Derived.Test.YtcobbbbnmepmfaaIns
import Derived.Test.YtcobbbbnmepmfaaSmall
import Derived.Deep.DeepCutAuto
import Derived.Lib.IndexBytes
import Derived.RegionTactic
import Derived.BigRegion
import Derived.BigQuiet
import Derived.Deep.QuietTactic
namespace Go.Proofs.Ytcobbbbnmepmfaa
open Go.RowKit Go.Lib Tr

namespace Tr
def HT.setPr : HT → Int → HT
  | .mk tag b d p h kids, v => .mk tag b { d with pr := v } p h kids

theorem setPr_b (k : HT) (v : Int) : (k.setPr v).b = k.b := by cases k; rfl
theorem setPr_key (k : HT) (v : Int) : key (k.setPr v) = key k := by cases k; rfl
theorem setPr_tag (k : HT) (v : Int) : (k.setPr v).tag = k.tag := by cases k; rfl
theorem setPr_R (k : HT) (v : Int) : R (k.setPr v) = R k := by cases k; rfl
theorem setPr_blocks (k : HT) (v : Int) : blocks (k.setPr v) = blocks k := by
  cases k with
  | mk tag b d p h kids => simp [HT.setPr, blocks_mk, own]
theorem setPr_wf (k : HT) (v : Int) (hw : Wf k) : Wf (k.setPr v) := by
  cases k with
  | mk tag b d p h kids =>
    refine Wf.of_top ?_ (fun x hx => hw.kid (t := .mk tag b d p h kids) hx)
    have := hw.top
    cases tag <;> exact this

theorem Rep.setPr {w : World} {k : HT} (hr : Rep w k) (v : Int) : Rep (w.setCell ⟨k.b, 4, none⟩ (.int .u32 v)) (k.setPr v) := by
  cases k with
  | mk tag b d p h kids =>
    obtain ⟨ty, e⟩ := hr.row
    refine hr.setRow rfl ⟨ty, ?_⟩ (fun x hx => Below.heap_setCell _ _ _ _ hx)
    rw [show (HT.mk tag b d p h kids).b = b from rfl, row_set e]
    rfl

theorem Rep.setPrKid {w : World} {tag : Tag} {b : Nat} {d : Dec} {p : ByteArray} {h : Option Nat} {A B : List HT} {k : HT} (hr : Rep w (.mk tag b d p h (A ++ k :: B))) (v : Int) :
    Rep (w.setCell ⟨k.b, 4, none⟩ (.int .u32 v)) (.mk tag b d p h (A ++ k.setPr v :: B)) := by
  have hk : Rep w k := hr.kid (t := .mk tag b d p h (A ++ k :: B)) (by show k ∈ A ++ k :: B; simp)
  refine hr.swap (setPr_b k v) (hk.setPr v) ((Kept.refl _ w).setCell (.inl (mem_blocks_self k)) _) (fun x hx => ?_)
  rw [setPr_blocks] at hx; exact .inl hx

theorem Rep.setIx {w : World} {tag : Tag} {b : Nat} {d : Dec} {p : ByteArray} {h : Option Nat} {kids : List HT} (hr : Rep w (.mk tag b d p h kids)) (ix : ByteArray) :
    Rep (w.setCell ⟨b, 5, none⟩ (.string ix)) (.mk tag b { d with ix := ix } p h kids) := by
  obtain ⟨ty, e⟩ := hr.row
  refine hr.setRow rfl ⟨ty, ?_⟩ (fun x hx => Below.heap_setCell _ _ _ _ hx)
  rw [row_set e]
  rfl

theorem Rep.setMp {w : World} {tag : Tag} {b : Nat} {d : Dec} {p : ByteArray} {h : Option Nat} {kids : List HT} (hr : Rep w (.mk tag b d p h kids)) (mp : Nat) :
    Rep (w.setCell ⟨b, 3, none⟩ (.int .u8 (mp : Int))) (.mk tag b { d with mp := mp } p h kids) := by
  obtain ⟨ty, e⟩ := hr.row
  refine hr.setRow rfl ⟨ty, ?_⟩ (fun x hx => Below.heap_setCell _ _ _ _ hx)
  rw [row_set e]
  rfl

theorem Rep.setH {w : World} {tag : Tag} {b : Nat} {d : Dec} {p : ByteArray} {h : Option Nat} {kids : List HT} (hr : Rep w (.mk tag b d p h kids)) (h' : Option Nat) :
    Rep (w.setCell ⟨b, 7, none⟩ (hV h')) (.mk tag b d p h' kids) := by
  obtain ⟨ty, e⟩ := hr.row
  refine hr.setRow rfl ⟨ty, ?_⟩ (fun x hx => Below.heap_setCell _ _ _ _ hx)
  rw [row_set e]
  rfl

/-- The array's block. -/
theorem Rep.arr {w : World} {tag : Tag} {b : Nat} {d : Dec} {p : ByteArray} {h : Option Nat} {kids : List HT} {g : Nat} {sp : List Value} (hr : Rep w (.mk tag b d p h kids)) (ha : d.arr = some (g, sp)) :
    w.heap[g]? = some (.cells (kids.map ptr ++ sp).toArray 76 (0, 0)) ∧ kids.length + sp.length ≤ maxLen ∧ g ≠ b := by
  have h2 := hr.node.2
  simp only [ha] at h2
  refine ⟨h2.1, h2.2, ?_⟩
  have := hr.nd
  rw [blocks_mk] at this
  have h1 := (List.nodup_append.1 this).1
  unfold own at h1
  simp only [ha] at h1
  intro e; subst e; simp at h1

theorem Rep.kidcell {w : World} {tag : Tag} {b : Nat} {d : Dec} {p : ByteArray} {h : Option Nat} {A B : List HT} {k : HT} {g : Nat} {sp : List Value} (hr : Rep w (.mk tag b d p h (A ++ k :: B))) (ha : d.arr = some (g, sp)) :
    w.cell? ⟨g, A.length, none⟩ = some (.pointer (some ⟨k.b, 0, none⟩)) := by
  rw [cell_of_row8 (hr.arr ha).1]
  simp [List.map_append, ptr]

theorem Rep.kid_ne {w : World} {tag : Tag} {b : Nat} {d : Dec} {p : ByteArray} {h : Option Nat} {kids : List HT} {k : HT} (hr : Rep w (.mk tag b d p h kids)) (hk : k ∈ kids) : k.b ≠ b ∧ ∀ g sp, d.arr = some (g, sp) → k.b ≠ g := by
  have := hr.nd
  rw [blocks_mk] at this
  have h3 := (List.nodup_append.1 this).2.2
  have hkb := mem_blocksL hk (mem_blocks_self k)
  have ho : b ∈ own (.mk tag b d p h kids) := by unfold own; simp only; split <;> simp
  refine ⟨fun e => h3 b ho k.b hkb e.symm, fun g sp ha e => ?_⟩
  have hg : g ∈ own (.mk tag b d p h kids) := by unfold own; simp [ha]
  exact h3 g hg k.b hkb e.symm

theorem Rep.pr {w : World} {k : HT} (hr : Rep w k) : w.cell? ⟨k.b, 4, none⟩ = some (.int .u32 k.d.pr) ∧ w.frozen? ⟨k.b, 4, none⟩ = false := by
  cases k with
  | mk tag b d p h kids => exact ⟨hr.c4, hr.free 4⟩

theorem nodup_swap {A C : List HT} {x y : HT} (h : (blocksL (A ++ x :: y :: C)).Nodup) : (blocksL (A ++ y :: x :: C)).Nodup := by
  have hp : (blocksL (A ++ y :: x :: C)).Perm (blocksL (A ++ x :: y :: C)) := by
    simp only [blocksL_append, blocksL_cons]
    refine List.Perm.append_left _ ?_
    rw [← List.append_assoc, ← List.append_assoc]
    exact List.Perm.append_right _ List.perm_append_comm
  exact hp.symm.nodup h

/-- Two neighbours change places in the array. -/
theorem Rep.swapArr {w : World} {tag : Tag} {b : Nat} {d : Dec} {p : ByteArray} {h : Option Nat} {A C : List HT} {x y : HT} {g : Nat} {sp : List Value} (hr : Rep w (.mk tag b d p h (A ++ x :: y :: C))) (ha : d.arr = some (g, sp)) {w' : World}
    (hg : w'.heap[g]? = some (.cells ((A ++ y :: x :: C).map ptr ++ sp).toArray 76 (0, 0))) (ho : ∀ z, z ≠ g → w'.heap[z]? = w.heap[z]?) : Rep w' (.mk tag b d p h (A ++ y :: x :: C)) := by
  have hnd := hr.nd
  rw [blocks_mk] at hnd
  obtain ⟨n1, n2, n3⟩ := List.nodup_append.1 hnd
  have hmem : ∀ z, z ∈ blocksL (A ++ y :: x :: C) ↔ z ∈ blocksL (A ++ x :: y :: C) := by
    intro z
    simp only [blocksL_append, blocksL_cons, List.mem_append]
    constructor
    · rintro (h | h | h | h)
      · exact .inl h
      · exact .inr (.inr (.inl h))
      · exact .inr (.inl h)
      · exact .inr (.inr (.inr h))
    · rintro (h | h | h | h)
      · exact .inl h
      · exact .inr (.inr (.inl h))
      · exact .inr (.inl h)
      · exact .inr (.inr (.inr h))
  have hgo : g ∈ own (.mk tag b d p h (A ++ x :: y :: C)) := by unfold own; simp [ha]
  have hown : own (.mk tag b d p h (A ++ y :: x :: C)) = own (.mk tag b d p h (A ++ x :: y :: C)) := rfl
  refine ⟨?_, ?_⟩
  · intro n hn
    unfold nodes at hn
    rcases List.mem_cons.1 hn with rfl | hn
    · obtain ⟨ty, e⟩ := hr.row
      refine ⟨⟨ty, ?_⟩, ?_⟩
      · rw [ho b (Ne.symm (hr.arr ha).2.2), e]; simp
      · rw [ha]
        exact ⟨hg, by have := (hr.arr ha).2.1; simpa using this⟩
    · have hn' : n ∈ nodes (.mk tag b d p h (A ++ x :: y :: C)) := by
        unfold nodes
        refine List.mem_cons_of_mem _ ?_
        simp only [nodesL_append, nodesL_cons, List.mem_append] at hn ⊢
        rcases hn with h | h | h | h
        · exact .inl h
        · exact .inr (.inr (.inl h))
        · exact .inr (.inl h)
        · exact .inr (.inr (.inr h))
      refine (hr.ok n hn').same fun z hz => ho z ?_
      have hzb : z ∈ blocksL (A ++ x :: y :: C) := (hmem z).1 (List.mem_flatMap.2 ⟨n, hn, hz⟩)
      intro e; subst e
      exact n3 z hgo z hzb rfl
  · rw [blocks_mk, hown]
    refine List.nodup_append.2 ⟨n1, nodup_swap n2, fun z hz z' hz' e => n3 z hz z' ((hmem z').1 hz') e⟩

end Tr

/-- What incrementChildPrio leaves. -/
def PrioPost (w : World) (tag : Tag) (b : Nat) (d : Dec) (p : ByteArray) (h : Option Nat) (kids : List HT) (pos : Nat) (e : Ending) (w' : World) : Prop :=
  ∃ (A B C : List HT) (k : HT) (pr : Int) (ix : ByteArray), kids = A ++ (B ++ k :: C) ∧ A.length + B.length = pos ∧ e = .returned (.int .i64 (A.length : Nat)) ∧
    Rep w' (.mk tag b { d with ix := ix } p h (A ++ k.setPr pr :: (B ++ C))) ∧ Kept (blocks (.mk tag b d p h kids)) w w' ∧
    ∃ i1 i2 i3 c, d.ix.data.toList = i1 ++ (i2 ++ c :: i3) ∧ ix.data.toList = i1 ++ (c :: (i2 ++ i3)) ∧ i1.length = A.length ∧ i2.length = B.length

theorem ix_moved (x : ByteArray) (j pos : Nat) (hj : j ≤ pos) (hp : pos < x.size) : ∃ i1 i2 i3 c, x.data.toList = i1 ++ (i2 ++ c :: i3) ∧
    (x.extract 0 j ++ x.extract pos (pos + 1) ++ x.extract j pos ++ x.extract (pos + 1) x.size).data.toList = i1 ++ (c :: (i2 ++ i3)) ∧ i1.length = j ∧ i2.length = pos - j := by
  have hl : x.data.toList.length = x.size := (Lib.size_eq x).symm
  obtain ⟨l, hx⟩ : ∃ l, l = x.data.toList := ⟨_, rfl⟩
  have hpl : pos < l.length := by rw [hx, hl]; exact hp
  refine ⟨l.take j, (l.drop j).take (pos - j), l.drop (pos + 1), l[pos], ?_, ?_, by simp; omega, by simp; omega⟩
  · rw [← hx]
    have h1 : l = l.take j ++ l.drop j := (List.take_append_drop j l).symm
    have h2 : l.drop j = (l.drop j).take (pos - j) ++ l.drop pos := by
      have := (List.take_append_drop (pos - j) (l.drop j)).symm
      rwa [List.drop_drop, show j + (pos - j) = pos from by omega] at this
    have h3 : l.drop pos = l[pos] :: l.drop (pos + 1) := List.drop_eq_getElem_cons hpl
    rw [← h3, ← h2]; exact h1
  · have e1 : (x.extract pos (pos + 1)).data.toList = [l[pos]] := by
      rw [Lib.extract_data, ← hx, show pos + 1 - pos = 1 from by omega, List.drop_eq_getElem_cons hpl]; rfl
    have e2 : (x.extract 0 j).data.toList = l.take j := by rw [Lib.extract_data, ← hx]; rfl
    have e3 : (x.extract j pos).data.toList = (l.drop j).take (pos - j) := by rw [Lib.extract_data, ← hx]
    have e4 : (x.extract (pos + 1) x.size).data.toList = l.drop (pos + 1) := by rw [Lib.extract_to_end, ← hx]
    simp only [ByteArray.data_append, Array.toList_append, e1, e2, e3, e4]
    simp

set_option maxHeartbeats 4000000 in
set_option maxRecDepth 100000 in
theorem incPrio_any (w : World) (tag : Tag) (b : Nat) (d : Dec) (p : ByteArray) (h : Option Nat) (kids : List HT) (pos : Nat) (hr : Rep w (.mk tag b d p h kids)) (hpos : pos < kids.length) (hix : d.ix.size = kids.length) (hlen : kids.length ≤ 2147483647) :
    Calls Try.prog 41 #[.pointer (some ⟨b, 0, none⟩), .int .i64 pos] w (PrioPost w tag b d p h kids pos) := by
  obtain ⟨g, sp, ha⟩ : ∃ g sp, d.arr = some (g, sp) := by
    cases harr : d.arr with
    | none =>
      have := hr.node.2
      simp only [harr] at this
      rw [this] at hpos; simp at hpos
    | some q => exact ⟨q.1, q.2, rfl⟩
  obtain ⟨A0, k, C, hkids, hA0⟩ : ∃ A0 k C, kids = A0 ++ k :: C ∧ A0.length = pos :=
    ⟨kids.take pos, kids[pos], kids.drop (pos + 1), by rw [← List.drop_eq_getElem_cons hpos, List.take_append_drop], by simp; omega⟩
  have hr' := hr
  rw [hkids] at hr'
  have hc6 := hr.c6
  rw [ha] at hc6
  have hc6' : w.cell? ⟨b, 6, none⟩ = some (.slice (some ⟨g, 0, none⟩) kids.length (kids.length + sp.length)) := hc6
  have hck := hr'.kidcell ha
  rw [hA0] at hck
  have hkr : Rep w k := hr'.kid (t := .mk tag b d p h (A0 ++ k :: C)) (by show k ∈ A0 ++ k :: C; simp)
  obtain ⟨hpr, hprf⟩ := hkr.pr
  have hkb : ¬ k.b = b := (hr'.kid_ne (k := k) (by simp)).1
  have hkg : ¬ k.b = g := (hr'.kid_ne (k := k) (by simp)).2 g sp ha
  have b1 : (0 : Int) ≤ (pos : Int) := by omega
  have b2 : (pos : Int) < (kids.length : Int) := by omega
  obtain ⟨prv, hprv⟩ : ∃ prv, prv = k.d.pr := ⟨_, rfl⟩
  rw [← hprv] at hpr
  obtain ⟨kb, hkbe⟩ : ∃ kb, kb = k.b := ⟨_, rfl⟩
  rw [← hkbe] at hck hpr hprf hkb hkg
  have HKB := Lib.hid hkbe
  have HPRV := Lib.hid hprv
  have HR := Lib.hid hr
  have HR' := Lib.hid hr'
  have HKIDS := Lib.hid hkids
  have HA0 := Lib.hid hA0
  have HIX := Lib.hid hix
  have HARR := Lib.hid ha
  clear hr hr' hkids hA0 hix ha hc6 hkr hkbe hprv
  go_enter Try.func41, Try.ntmps41
  go_wp2
  obtain ⟨pv, hpv⟩ : ∃ pv, pv = (prv + 1) % 4294967296 := ⟨_, rfl⟩
  rw [← hpv]
  obtain ⟨W1, hW1⟩ : ∃ W1, W1 = w.setCell { block := kb, off := 4 } (Value.int IntKind.u32 pv) := ⟨_, rfl⟩
  rw [← hW1]
  have HR1 : Hid (Rep W1 (.mk tag b d p h (A0 ++ k.setPr pv :: C))) := by show Rep _ _; rw [hW1, HKB.out]; exact HR'.out.setPrKid pv
  have HK1 : Hid (Kept (blocks (.mk tag b d p h kids)) w W1) := by
    show Kept _ _ _
    rw [hW1]
    exact (Kept.refl _ w).setCell (.inl (by
      show kb ∈ _
      rw [HKB.out, HKIDS.out]
      exact mem_blocks_kid (t := .mk tag b d p h (A0 ++ k :: C)) (by show k ∈ A0 ++ k :: C; simp) (mem_blocks_self k))) _
  clear hc6' hck hpr hprf hkb hkg hW1 hpv
  go_loopw [6] (fun vj wr => ∃ (j : Nat) (A B : List HT), vj = .int .i64 j ∧ j ≤ pos ∧ Hid (A.length = j) ∧ Hid (A0 = A ++ B) ∧ Hid (Rep wr (.mk tag b d p h (A ++ k.setPr pv :: (B ++ C)))) ∧ Hid (Kept (blocks (.mk tag b d p h kids)) w wr)) (fun vj _ => (RowKit.intOf vj).toNat)
  case atStart => exact ⟨pos, A0, [], rfl, by omega, HA0, (by show _ = _; rw [List.append_nil]), HR1, HK1⟩
  case round =>
    obtain ⟨j, A, B, rfl, hj, HJ, HAB, HRr, HKr⟩ := hrel
    have HL : Hid ((A ++ k.setPr pv :: (B ++ C)).length = kids.length) := by
      show _ = _
      rw [HKIDS.out, HAB.out]; simp; omega
    have hc6 : wr.cell? ⟨b, 6, none⟩ = some (.slice (some ⟨g, 0, none⟩) kids.length (kids.length + sp.length)) := by
      have := HRr.out.c6
      rw [HARR.out, HL.out] at this
      exact this
    by_cases hj0 : 0 < j
    · have tj : (0 : Int) < (j : Int) := by omega
      obtain ⟨A', y, hA'⟩ : ∃ A' y, A = A' ++ [y] := by
        have : A ≠ [] := by intro e; have := HJ.out; rw [e] at this; simp at this; omega
        exact ⟨A.dropLast, A.getLast this, (List.dropLast_concat_getLast this).symm⟩
      have hAl : A'.length = j - 1 := by have := HJ.out; rw [hA'] at this; simp at this; omega
      have hRy : Rep wr (.mk tag b d p h (A' ++ y :: k.setPr pv :: (B ++ C))) := by
        have := HRr.out
        rw [hA'] at this
        simpa using this
      have hcy := hRy.kidcell HARR.out
      rw [hAl] at hcy
      have hyr : Rep wr y := hRy.kid (t := .mk tag b d p h (A' ++ y :: k.setPr pv :: (B ++ C))) (by show y ∈ A' ++ y :: k.setPr pv :: (B ++ C); simp)
      obtain ⟨hypr, _⟩ := hyr.pr
      obtain ⟨yv, hyv⟩ : ∃ yv, yv = y.d.pr := ⟨_, rfl⟩
      rw [← hyv] at hypr
      obtain ⟨yb, hyb⟩ : ∃ yb, yb = y.b := ⟨_, rfl⟩
      rw [← hyb] at hypr hcy
      have hjb : (j : Int) - 1 < (kids.length : Int) := by omega
      have hjb0 : (0 : Int) ≤ (j : Int) - 1 := by omega
      have HRY := Lib.hid hRy
      have HAL := Lib.hid hAl
      have HA' := Lib.hid hA'
      have HYB := Lib.hid hyb
      clear hA' hAl hRy hyr hyv hyb
      by_cases hlt : yv < pv
      · have hck : wr.cell? ⟨g, j, none⟩ = some (.pointer (some ⟨kb, 0, none⟩)) := by
          have := HRr.out.kidcell HARR.out
          rw [HJ.out, setPr_b, ← HKB.out] at this
          exact this
        have hfg : ∀ i, wr.frozen? ⟨g, i, none⟩ = false := fun i => free_of_row8 (HRr.out.arr HARR.out).1 i
        have hfg0 := hfg j
        have hfg1 := hfg (j - 1)
        have hgb : ¬ g = b := (HRr.out.arr HARR.out).2.2
        have hjlt : (j : Int) < (kids.length : Int) := by omega
        clear hfg
        have hne1 : ¬ j - 1 = j := by omega
        have hne2 : ¬ j = j - 1 := by omega
        have HNEW : Hid (Rep ((wr.drew.setCell ⟨g, j - 1, none⟩ (.pointer (some ⟨kb, 0, none⟩))).setCell ⟨g, j, none⟩ (.pointer (some ⟨yb, 0, none⟩))) (.mk tag b d p h (A' ++ k.setPr pv :: (y :: B ++ C)))) := by
          have hrd : Rep wr.drew (.mk tag b d p h (A' ++ y :: k.setPr pv :: (B ++ C))) := HRY.out.same (fun x _ => rfl)
          refine hrd.swapArr HARR.out ?_ (fun z hz => by rw [Below.heap_setCell _ _ _ _ (by exact hz), Below.heap_setCell _ _ _ _ (by exact hz)])
          rw [row_set (row_set (hrd.arr HARR.out).1 _ _)]
          have e1 : ((A' ++ y :: k.setPr pv :: (B ++ C)).map ptr ++ sp).toArray.setIfInBounds (j - 1) (.pointer (some ⟨kb, 0, none⟩)) = ((A' ++ k.setPr pv :: k.setPr pv :: (B ++ C)).map ptr ++ sp).toArray := by
            rw [← HAL.out, HKB.out]
            simp [ptr, setPr_b]
          have e2 : ((A' ++ k.setPr pv :: k.setPr pv :: (B ++ C)).map ptr ++ sp).toArray.setIfInBounds j (.pointer (some ⟨yb, 0, none⟩)) = ((A' ++ k.setPr pv :: y :: (B ++ C)).map ptr ++ sp).toArray := by
            have : j = A'.length + 1 := by have := HAL.out; omega
            rw [this, HYB.out]
            simp [ptr]
          rw [e1, e2]
        have HKNEW : Hid (Kept (blocks (.mk tag b d p h kids)) w ((wr.drew.setCell ⟨g, j - 1, none⟩ (.pointer (some ⟨kb, 0, none⟩))).setCell ⟨g, j, none⟩ (.pointer (some ⟨yb, 0, none⟩)))) := by
          have hg : g ∈ blocks (.mk tag b d p h kids) := by rw [blocks_mk]; unfold own; simp [HARR.out]
          exact (HKr.out.drew.setCell (.inl hg) _).setCell (.inl hg) _
        have HAB2 : Hid (A0 = A' ++ y :: B) := by show _ = _; rw [HAB.out, HA'.out]; simp
        go_wp2
        go_region
        go_wp2
        go_roundw
        case rel => exact ⟨j - 1, A', y :: B, by first | rfl | go_num | (congr 1; omega), by omega, HAL, HAB2, HNEW, HKNEW⟩
        case measure => simp [RowKit.intOf]; omega
      · as_aux_lemma =>
        have hc5 : wr.cell? ⟨b, 5, none⟩ = some (.string d.ix) := HRr.out.c5
        have hf5 : wr.frozen? ⟨b, 5, none⟩ = false := HRr.out.free 5
        have hBl : Hid (j + B.length = pos) := by
          show _ = _
          have h1 := HAB.out
          have h2 := congrArg List.length h1
          rw [List.length_append, HJ.out, HA0.out] at h2
          omega
        have hixl : pos < d.ix.size := by rw [HIX.out]; exact hpos
        have hixs : d.ix.size ≤ 2147483647 := by rw [HIX.out]; exact hlen
        by_cases hjp : j = pos
        · have tp : ((j : Int) != (pos : Int)) = false := by simp [hjp]
          have HFIN : Hid (PrioPost w tag b d p h kids pos (.returned (.int .i64 (j : Int))) wr) := by
            have hB : B = [] := by
              have := hBl.out
              apply List.eq_nil_of_length_eq_zero; omega
            subst hB
            refine ⟨A, [], C, k, pv, d.ix, by rw [HKIDS.out, HAB.out]; simp, by rw [HJ.out]; simp; omega, by rw [HJ.out], HRr.out, HKr.out, ?_⟩
            have hsz : pos < d.ix.data.toList.length := by rw [← Lib.size_eq]; exact hixl
            refine ⟨d.ix.data.toList.take pos, [], d.ix.data.toList.drop (pos + 1), d.ix.data.toList[pos], ?_, ?_, by rw [HJ.out, hjp]; simp; omega, rfl⟩
            · rw [List.nil_append, ← List.drop_eq_getElem_cons hsz, List.take_append_drop]
            · rw [List.nil_append, ← List.drop_eq_getElem_cons hsz, List.take_append_drop]
          clear hjp
          go_wp2
          go_ret
          exact HFIN.out
        · have tp : ((j : Int) != (pos : Int)) = true := by rw [bne_iff_ne]; omega
          have k1 : (j : Int) ≤ (pos : Int) := by omega
          have k2 : (pos : Int) + 1 ≤ (d.ix.size : Int) := by omega
          have k3 : (j : Int) ≤ (d.ix.size : Int) := by omega
          have k4 : (pos : Int) ≤ (d.ix.size : Int) := by omega
          obtain ⟨ix', hix'⟩ : ∃ x, x = d.ix.extract 0 j ++ d.ix.extract pos (pos + 1) ++ d.ix.extract j pos ++ d.ix.extract (pos + 1) d.ix.size := ⟨_, rfl⟩
          have HFIN : Hid (PrioPost w tag b d p h kids pos (.returned (.int .i64 (j : Int))) (wr.drew.setCell ⟨b, 5, none⟩ (.string ix'))) := by
            obtain ⟨i1, i2, i3, c, e1, e2, e3, e4⟩ := ix_moved d.ix j pos hj hixl
            have hrd : Rep wr.drew (.mk tag b d p h (A ++ k.setPr pv :: (B ++ C))) := HRr.out.same (fun x _ => rfl)
            refine ⟨A, B, C, k, pv, ix', by rw [HKIDS.out, HAB.out]; simp, by rw [HJ.out]; exact hBl.out, by rw [HJ.out], hrd.setIx ix', HKr.out.drew.setCell (.inl (mem_blocks_self _)) _, i1, i2, i3, c, e1, by rw [hix']; exact e2, by rw [HJ.out]; exact e3, by rw [e4]; have := hBl.out; omega⟩
          rw [hix'] at HFIN
          clear hix' hjp
          go_wp2
          go_region
          go_wp2
          go_ret
          exact HFIN.out
    · have tj : ¬ (0 : Int) < (j : Int) := by omega
      as_aux_lemma =>
      have hc5 : wr.cell? ⟨b, 5, none⟩ = some (.string d.ix) := HRr.out.c5
      have hf5 : wr.frozen? ⟨b, 5, none⟩ = false := HRr.out.free 5
      have hBl : Hid (j + B.length = pos) := by
        show _ = _
        have h1 := HAB.out
        have h2 := congrArg List.length h1
        rw [List.length_append, HJ.out, HA0.out] at h2
        omega
      have hixl : pos < d.ix.size := by rw [HIX.out]; exact hpos
      have hixs : d.ix.size ≤ 2147483647 := by rw [HIX.out]; exact hlen
      by_cases hjp : j = pos
      · have tp : ((j : Int) != (pos : Int)) = false := by simp [hjp]
        have HFIN : Hid (PrioPost w tag b d p h kids pos (.returned (.int .i64 (j : Int))) wr) := by
          have hB : B = [] := by
            have := hBl.out
            apply List.eq_nil_of_length_eq_zero; omega
          subst hB
          refine ⟨A, [], C, k, pv, d.ix, by rw [HKIDS.out, HAB.out]; simp, by rw [HJ.out]; simp; omega, by rw [HJ.out], HRr.out, HKr.out, ?_⟩
          have hsz : pos < d.ix.data.toList.length := by rw [← Lib.size_eq]; exact hixl
          refine ⟨d.ix.data.toList.take pos, [], d.ix.data.toList.drop (pos + 1), d.ix.data.toList[pos], ?_, ?_, by rw [HJ.out, hjp]; simp; omega, rfl⟩
          · rw [List.nil_append, ← List.drop_eq_getElem_cons hsz, List.take_append_drop]
          · rw [List.nil_append, ← List.drop_eq_getElem_cons hsz, List.take_append_drop]
        clear hjp
        go_wp2
        go_ret
        exact HFIN.out
      · have tp : ((j : Int) != (pos : Int)) = true := by rw [bne_iff_ne]; omega
        have k1 : (j : Int) ≤ (pos : Int) := by omega
        have k2 : (pos : Int) + 1 ≤ (d.ix.size : Int) := by omega
        have k3 : (j : Int) ≤ (d.ix.size : Int) := by omega
        have k4 : (pos : Int) ≤ (d.ix.size : Int) := by omega
        obtain ⟨ix', hix'⟩ : ∃ x, x = d.ix.extract 0 j ++ d.ix.extract pos (pos + 1) ++ d.ix.extract j pos ++ d.ix.extract (pos + 1) d.ix.size := ⟨_, rfl⟩
        have HFIN : Hid (PrioPost w tag b d p h kids pos (.returned (.int .i64 (j : Int))) (wr.drew.setCell ⟨b, 5, none⟩ (.string ix'))) := by
          obtain ⟨i1, i2, i3, c, e1, e2, e3, e4⟩ := ix_moved d.ix j pos hj hixl
          have hrd : Rep wr.drew (.mk tag b d p h (A ++ k.setPr pv :: (B ++ C))) := HRr.out.same (fun x _ => rfl)
          refine ⟨A, B, C, k, pv, ix', by rw [HKIDS.out, HAB.out]; simp, by rw [HJ.out]; exact hBl.out, by rw [HJ.out], hrd.setIx ix', HKr.out.drew.setCell (.inl (mem_blocks_self _)) _, i1, i2, i3, c, e1, by rw [hix']; exact e2, by rw [HJ.out]; exact e3, by rw [e4]; have := hBl.out; omega⟩
        rw [hix'] at HFIN
        clear hix' hjp
        go_wp2
        go_region
        go_wp2
        go_ret
        exact HFIN.out

end Go.Proofs.Ytcobbbbnmepmfaa
