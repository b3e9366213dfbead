/- Build: the number of the first path that can't be registered. -/
import Derived.Test.YtcobbbbnmepmfaaPathsL
import Derived.Test.YtcobbbbnmepmfaaBuilt
namespace Go.Proofs.Ytcobbbbnmepmfaa
open Go Go.RowKit Go.Lib Tr

theorem route_in {p : ByteArray} {l : List (Int × ByteArray)} (h1 : p.data.toList = enc (tokR l)) (h2 : p.size ≤ 320) (hr : RouteOk l) : RouteIn p (tokR l) := by
  refine ⟨h1, val_tokR l hr.segs, sKey_tokR ?_, ?_, by omega⟩
  · intro e
    have := hr.1
    rw [e] at this
    exact absurd this (by decide)
  · have := cnt_tokR l
    have := hr.2.1
    omega

theorem FirstBad.unique {T : List (List Tok)} {m k : Nat} (h : FirstBad T m) (h' : FirstBad T k) : m = k := by
  rcases Nat.lt_trichotomy m k with hlt | h0 | hlt
  · exfalso
    obtain ⟨s, hs⟩ : ∃ s, T[m]? = some s := ⟨_, List.getElem?_eq_getElem (by have := h'.le; omega)⟩
    exact h'.ok m s hlt hs (h.bad s hs)
  · exact h0
  · exfalso
    obtain ⟨s, hs⟩ : ∃ s, T[k]? = some s := ⟨_, List.getElem?_eq_getElem (by have := h.le; omega)⟩
    exact h.ok k s hlt hs (h'.bad s hs)

/-- The number. -/
def NumPost (T : List (List Tok)) (w : World) (e : Ending) (w' : World) : Prop := ∃ m : Nat, FirstBad T m ∧ e = .returned (.int .i64 (m : Int)) ∧ Below w.heap.size w w'

set_option maxHeartbeats 4000000 in
set_option maxRecDepth 100000 in
theorem build_any (w : World) (a : Option Addr) (c : Nat) (P : List ByteArray) (T : List (List Tok)) (hc : StrCells w a P) (hlen : P.length = T.length) (hl : P.length ≤ 2147483647) (hin : ∀ (i : Nat) p s, P[i]? = some p → T[i]? = some s → RouteIn p s) :
    Calls Try.prog 10 #[.slice a P.length c] w (NumPost T w) := by
  have HT := Lib.hid (tree_any w a c P T hc hlen hl hin)
  clear hc hlen hin
  go_enter Try.func10, Try.ntmps10
  go_wp2_with (go_at_call 25; refine HT.out.mono ?_; rintro e w' ⟨m, hm, hb, ⟨hlt, rfl⟩ | ⟨rfl, rb, rfl, hq⟩⟩)
  · go_ret
    exact ⟨m, hm, rfl, hb⟩
  · go_ret
    exact ⟨_, hm, rfl, hb⟩

/-- "/a" -/
theorem route_a : RouteIn ⟨#[47, 97]⟩ [.b 47, .b 97] := by
  refine ⟨rfl, ?_, rfl, by decide, by decide⟩
  refine ⟨by constructor <;> decide, fun e => (by cases e), ?_⟩
  exact ⟨by constructor <;> decide, fun _ => by decide, trivial⟩

theorem twice_a {m : Nat} (h : FirstBad [[.b 47, .b 97], [.b 47, .b 97]] m) : m = 1 := by
  refine h.unique ⟨by decide, ?_, ?_⟩
  · intro i s hi hs
    obtain rfl : i = 0 := by omega
    rintro ⟨r, hr, _⟩
    cases hr
  · intro s hs
    have : s = [.b 47, .b 97] := by simpa using hs.symm
    subst this
    rw [bad_rl]
    exact ⟨0, [.b 47, .b 97], rfl, by decide⟩

end Go.Proofs.Ytcobbbbnmepmfaa
