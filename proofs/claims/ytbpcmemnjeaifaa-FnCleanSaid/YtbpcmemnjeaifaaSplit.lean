/- The reference's split: the parts between the slashes. -/
import Derived.Test.YtbpcmemnjeaifaaRows
import Derived.Test.YtbpcmemnjeaifaaPlain
import Derived.WalkKit
import Derived.WalkSpells
import Derived.WalkLawsBesides
import Derived.Lib.Hide
import Derived.Deep.DeepCutAuto
import Derived.BigCall
import Derived.BigGuard
import Derived.BigQuiet
import Derived.Lib.Strings
namespace Go.Proofs.Ytbpcmemnjeaifaa
open Go.RowKit Go.Lib

theorem Try.info9 : (Try.prog.info? 9).map (fun i => (i.zero, i.size, i.bytes)) = some (some (Value.string ByteArray.empty), 1, 16) := by kernel_rfl

/-- A list of strings as values. -/
def strV (P : List ByteArray) : List Value := P.map Value.string
theorem strV_append (P : List ByteArray) (x : ByteArray) : strV (P ++ [x]) = strV P ++ [.string x] := by simp [strV]
theorem strV_length (P : List ByteArray) : (strV P).length = P.length := by simp [strV]
theorem strV_one (P : List ByteArray) : ∀ u ∈ strV P, u.oneCell' = true := by
  intro u hu
  obtain ⟨_, _, rfl⟩ := List.mem_map.1 hu
  rfl

/-- Of the text l, the parts P have been cut off; the next begins at 'from', and the reading place is i. -/
structure SplitAt (l : List UInt8) (P : List (List UInt8)) (fr i : Nat) : Prop where
  le : fr ≤ i
  le1 : i ≤ l.length + 1
  len : P.length ≤ fr
  on : (i ≤ l.length ∧ Pa.els l = P ++ Pa.els (l.drop fr) ∧ ∀ k, fr ≤ k → k < i → l[k]? ≠ some 47) ∨ (i = l.length + 1 ∧ fr = i ∧ Pa.els l = P)

theorem SplitAt.start (l : List UInt8) : SplitAt l [] 0 0 := ⟨Nat.le_refl _, by omega, Nat.le_refl _, .inl ⟨by omega, by simp, fun k h1 h2 => by omega⟩⟩

theorem SplitAt.nosep {l : List UInt8} {P : List (List UInt8)} {fr i : Nat} (h : SplitAt l P fr i) (hi : i ≤ l.length) : ∀ x ∈ (l.drop fr).take (i - fr), x ≠ 47 := by
  intro x hx
  obtain ⟨k, hk⟩ := List.getElem?_of_mem hx
  rw [List.getElem?_take] at hk
  split at hk
  · rw [List.getElem?_drop] at hk
    rcases h.on with ⟨_, _, h3⟩ | ⟨h1, _⟩
    · have := h3 (fr + k) (by omega) (by omega)
      intro e
      rw [hk, e] at this
      exact this rfl
    · omega
  · cases hk

theorem SplitAt.split {l : List UInt8} {fr i : Nat} (hi : fr ≤ i) : l.drop fr = (l.drop fr).take (i - fr) ++ l.drop i := by
  have := (List.take_append_drop (i - fr) (l.drop fr)).symm
  rwa [List.drop_drop, show fr + (i - fr) = i from by omega] at this

theorem SplitAt.cut {l : List UInt8} {P : List (List UInt8)} {fr i : Nat} (h : SplitAt l P fr i) (hx : l[i]? = some 47) : SplitAt l (P ++ [(l.drop fr).take (i - fr)]) (i + 1) (i + 1) := by
  have hi := Pa.lt_of_some hx
  rcases h.on with ⟨h1, h2, h3⟩ | ⟨h1, _⟩
  · refine ⟨Nat.le_refl _, by omega, by have := h.len; have := h.le; simp; omega, .inl ⟨by omega, ?_, fun k a b => by omega⟩⟩
    have hs := SplitAt.split (l := l) h.le
    rw [Cp.drop_cons hx] at hs
    rw [hs, Cp.els_elem_slash _ _ (h.nosep h1)] at h2
    rw [h2, List.append_assoc]; rfl
  · omega

theorem SplitAt.last {l : List UInt8} {P : List (List UInt8)} {fr : Nat} (h : SplitAt l P fr l.length) : SplitAt l (P ++ [(l.drop fr).take (l.length - fr)]) (l.length + 1) (l.length + 1) := by
  rcases h.on with ⟨h1, h2, h3⟩ | ⟨h1, _⟩
  · refine ⟨Nat.le_refl _, Nat.le_refl _, by have := h.len; have := h.le; simp; omega, .inr ⟨rfl, rfl, ?_⟩⟩
    have hs := SplitAt.split (l := l) h.le
    rw [List.drop_eq_nil_of_le (Nat.le_refl _), List.append_nil] at hs
    have hn := h.nosep h1
    rw [← hs] at hn
    rw [h2, ← hs, Cp.els_elem_end _ hn]
  · omega

theorem SplitAt.on_ {l : List UInt8} {P : List (List UInt8)} {fr i : Nat} (h : SplitAt l P fr i) (hi : i < l.length) (hx : l[i]? ≠ some 47) : SplitAt l P fr (i + 1) := by
  rcases h.on with ⟨h1, h2, h3⟩ | ⟨h1, _⟩
  · refine ⟨by have := h.le; omega, by omega, h.len, .inl ⟨by omega, h2, fun k a b => ?_⟩⟩
    by_cases e : k = i
    · subst e; exact hx
    · exact h3 k a (by omega)
  · omega

theorem SplitAt.done {l : List UInt8} {P : List (List UInt8)} {fr i : Nat} (h : SplitAt l P fr i) (hi : ¬ i ≤ l.length) : Pa.els l = P := by
  rcases h.on with ⟨h1, _⟩ | ⟨_, _, h2⟩
  · omega
  · exact h2

def lists (P : List ByteArray) : List (List UInt8) := P.map fun x => x.data.toList

theorem extract_bytes (s : ByteArray) (a b : Nat) : (s.extract a b).data.toList = (s.data.toList.drop a).take (b - a) := Lib.extract_data s a b

/-- What split gives: a slice of the call's own, which holds the parts. -/
def SplitPost (l : List UInt8) (w : World) (e : Ending) (w' : World) : Prop := ∃ v P, e = .returned v ∧ lists P = Pa.els l ∧ P.length ≤ l.length + 1 ∧ w'.ownsRow w.heap.size 9 1 v P.length (strV P) ∧ Below w.heap.size w w'

set_option maxHeartbeats 2000000 in
set_option maxRecDepth 100000 in
theorem split_any (s : ByteArray) (w : World) (hbig : s.size ≤ 2147483647) :
    Calls Try.prog 8 #[.string s] w (SplitPost s.data.toList w) := by
  obtain ⟨i0, hi, hz0, hz1, hz2⟩ := info_parts Try.info9
  have HLEN : Hid (s.data.toList.length = s.size) := (Lib.size_eq s).symm
  go_enter Try.func8, Try.ntmps8
  go_wp2
  go_loopw [3, 4, 5] (fun v vf vi wr => ∃ (P : List ByteArray) (fr i : Nat), vf = .int .i64 fr ∧ vi = .int .i64 i ∧ i ≤ s.size + 1 ∧ fr ≤ i ∧ P.length ≤ fr ∧ Hid (SplitAt s.data.toList (lists P) fr i) ∧ Hid (wr.ownsRow w.heap.size 9 1 v P.length (strV P)) ∧ Hid (Below w.heap.size w wr)) (fun _ _ vi _ => s.size + 2 - (RowKit.intOf vi).toNat)
  case atStart => exact ⟨[], 0, 0, rfl, rfl, by omega, by omega, by simp, SplitAt.start _, (by show World.ownsRow _ _ _ _ _ _ _; exact World.ownsRow_made w #[] 0 (Nat.le_refl _) (by unfold maxLen; omega) rfl), (Below.refl _ w).alloc (Nat.le_refl _) _⟩
  case round =>
    obtain ⟨P, fr, i, rfl, rfl, hi1, hfr, hPl, hsp, hown, hbel⟩ := hrel
    by_cases hin : i ≤ s.size
    · have hT : (i : Int) ≤ (s.size : Int) := by omega
      have b1 : (fr : Int) ≤ (i : Int) := by omega
      have b2 : (0 : Int) ≤ (fr : Int) := by omega
      have HC : Hid (lists (P ++ [s.extract fr i]) = lists P ++ [(s.data.toList.drop fr).take (i - fr)]) := by
        show _ = _
        simp [lists]
      by_cases hie : i = s.size
      · have t1 : ((i : Int) == (s.size : Int)) = true := by simp; omega
        have HS : Hid (SplitAt s.data.toList (lists (P ++ [s.extract fr i])) (i + 1) (i + 1)) := by
          show SplitAt _ _ _ _
          rw [HC.out]
          have h := hsp.out
          rw [hie, ← HLEN.out] at h ⊢
          exact h.last
        clear hie
        go_wp2_with (at_builtin; refine wpList_append_own _ rfl _ _ 24 rfl w.heap.size 9 i0 (.string ByteArray.empty) 1 16 Try.underlying24 hi hz0 hz1 hz2 rfl (by decide) _ _ _ rfl (hown.out.alloc _) ⟨wr.heap.size, 0, none⟩ 1 1 [.string (s.extract fr i)] rfl rfl ?c1 ?c2 ?c3 ?c4 ?c5 ?_)
        case c1 => exact cell_one_new _ _ _
        case c2 => intro u hu; simp at hu; subst hu; rfl
        case c3 => unfold maxLen; omega
        case c4 => omega
        case c5 => have := hbel.out.size; simp; omega
        intro v' w1 hown' hgrow _
        have HO : Hid (w1.ownsRow w.heap.size 9 1 v' (P ++ [s.extract fr i]).length (strV (P ++ [s.extract fr i]))) := by
          show World.ownsRow _ _ _ _ _ _ _
          rw [strV_append, List.length_append]; exact hown'
        have HB : Hid (Below w.heap.size w w1) := ((hbel.out.alloc hbel.out.size _).grown hgrow (by have := hbel.out.size; simp; omega) (fun k hk => (hown.out.lt k hk).1))
        have HL : (P ++ [s.extract fr i]).length ≤ i + 1 := by simp; omega
        clear hown' hgrow
        go_wp2
        go_roundw
        case rel => exact ⟨P ++ [s.extract fr i], i + 1, i + 1, by go_num, by go_num, by omega, by omega, HL, HS, HO, HB⟩
        case measure => simp [RowKit.intOf]; omega
      · have t1 : ((i : Int) == (s.size : Int)) = false := by simp; omega
        have hlt : i < s.size := by omega
        have hb : (0 : Int) ≤ (i : Int) ∧ (i : Int) < (s.size : Int) := by omega
        by_cases hx : (s[i]'hlt) = 47
        · have tx : (((s[i]'hlt).toNat : Int) == 47) = true := by rw [hx]; rfl
          have HS : Hid (SplitAt s.data.toList (lists (P ++ [s.extract fr i])) (i + 1) (i + 1)) := by
            show SplitAt _ _ _ _
            rw [HC.out]
            exact hsp.out.cut (by rw [Pa.at_eq s i hlt, hx])
          clear hx
          go_wp2_with (at_builtin; refine wpList_append_own _ rfl _ _ 24 rfl w.heap.size 9 i0 (.string ByteArray.empty) 1 16 Try.underlying24 hi hz0 hz1 hz2 rfl (by decide) _ _ _ rfl (hown.out.alloc _) ⟨wr.heap.size, 0, none⟩ 1 1 [.string (s.extract fr i)] rfl rfl ?d1 ?d2 ?d3 ?d4 ?d5 ?_)
          case d1 => exact cell_one_new _ _ _
          case d2 => intro u hu; simp at hu; subst hu; rfl
          case d3 => unfold maxLen; omega
          case d4 => omega
          case d5 => have := hbel.out.size; simp; omega
          intro v' w1 hown' hgrow _
          have HO : Hid (w1.ownsRow w.heap.size 9 1 v' (P ++ [s.extract fr i]).length (strV (P ++ [s.extract fr i]))) := by
            show World.ownsRow _ _ _ _ _ _ _
            rw [strV_append, List.length_append]; exact hown'
          have HB : Hid (Below w.heap.size w w1) := ((hbel.out.alloc hbel.out.size _).grown hgrow (by have := hbel.out.size; simp; omega) (fun k hk => (hown.out.lt k hk).1))
          have HL : (P ++ [s.extract fr i]).length ≤ i + 1 := by simp; omega
          clear hown' hgrow
          go_wp2
          go_roundw
          case rel => exact ⟨P ++ [s.extract fr i], i + 1, i + 1, by go_num, by go_num, by omega, by omega, HL, HS, HO, HB⟩
          case measure => simp [RowKit.intOf]; omega
        · have tx : (((s[i]'hlt).toNat : Int) == 47) = false := by rw [Pa.beq47]; simpa using hx
          have HS : Hid (SplitAt s.data.toList (lists P) fr (i + 1)) := hsp.out.on_ (by rw [HLEN.out]; exact hlt) (by rw [Pa.at_eq s i hlt]; intro e; exact hx (Option.some.inj e))
          go_wp2
          go_roundw
          case rel => exact ⟨P, fr, i + 1, rfl, by go_num, by omega, by omega, hPl, HS, hown, hbel⟩
          case measure => simp [RowKit.intOf]; omega
    · have hT : ¬ (i : Int) ≤ (s.size : Int) := by omega
      have HD : Hid (Pa.els s.data.toList = lists P) := hsp.out.done (by rw [HLEN.out]; exact hin)
      go_wp2
      go_ret
      exact ⟨_, P, rfl, HD.out.symm, by rw [HLEN.out]; omega, hown.out, hbel.out⟩

end Go.Proofs.Ytbpcmemnjeaifaa
