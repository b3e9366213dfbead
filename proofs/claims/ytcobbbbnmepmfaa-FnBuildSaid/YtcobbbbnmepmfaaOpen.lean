/- Arguments opened: routes as they come in. -/
import Derived.Test.YtcobbbbnmepmfaaFits
import Derived.ProofKit
import Derived.OpenShut
import Derived.ShutString
import Derived.ChangeOld
import Derived.Carry
import Derived.KernelRfl
import Derived.Deep.Slices
import Derived.Deep.SlicePairs
namespace Go.Proofs.Ytcobbbbnmepmfaa
open Go Go.RowKit Go.Lib Go.ChangeShapes Go.WideShapes Go.ChangeAt Go.Deep

theorem laidOut : laidOutB Try.prog = true := by kernel_rfl

section
variable {H : Type} {enc : TypeId × Value → H} {w : World} {held : Bool}

theorem open_segs {fuel : Nat} {cs : List Value} {x : DataW H × List MemPlace} (h : DataW.trod enc Try.prog w 0 (fun _ => true) held fuel 29 cs = some x) :
    ∃ a l c, cs = [.slice a l.length c] ∧ l.length ≤ c ∧ SegRaw w a l := by
  rcases open_slice_pairs Try.underlying29 Try.underlying53 (by kernel_rfl) (by kernel_rfl) (by kernel_rfl) (by kernel_rfl) (by kernel_rfl) h with ⟨h1, _⟩ | ⟨a, len, cap, m, n, V0, V1, D0, D1, P0, P1, h1, hb, hl, hm, hmm, hx, hc⟩
  · exact ⟨none, [], 0, h1, Nat.le_refl _, .inl rfl⟩
  · simp only [if_true] at hmm
    have each : ∀ i, i < len → ∃ q : Int × ByteArray, V0 i = .int .i64 q.1 ∧ V1 i = .string q.2 := by
      intro i hi
      obtain ⟨_, _, h2, h3⟩ := hc i (by omega)
      obtain ⟨k, e1, _⟩ := DataW.trod_int Try.underlying3 h2
      obtain ⟨t, e2, _⟩ := DataW.trod_string Try.underlying9 h3
      exact ⟨(k, t), by simpa using e1, by simpa using e2⟩
    obtain ⟨q, hq⟩ := choose_lt each
    refine ⟨some a, (List.range len).map q, cap, by simpa using h1, by simpa using hl, ?_⟩
    by_cases h0 : len = 0
    · subst h0; exact .inl rfl
    · obtain ⟨b, off, spot⟩ := a
      have hspot : spot = none := by simpa [Addr.add] using World.cell?_spot (hc 0 (by omega)).1
      subst hspot
      have hlt : b < w.heap.size := by
        have := World.block_lt_of_cell? w _ (hc 0 (by omega)).1
        simpa [Addr.add] using this
      refine .inr ⟨b, off, rfl, hlt, fun i k t hi => ?_⟩
      have hil := (List.getElem?_eq_some_iff.1 hi).1
      rw [List.length_map, List.length_range] at hil
      rw [List.getElem?_map, List.getElem?_range hil] at hi
      have hqi : q i = (k, t) := by simpa using hi
      obtain ⟨h2, h3, _⟩ := hc i (by omega)
      rw [(hq i hil).1, hqi] at h2
      rw [(hq i hil).2, hqi] at h3
      rw [Go.WideShapes.add_plain] at h2 h3
      exact ⟨h2, by rw [Nat.add_assoc]; exact h3⟩

theorem open_segss {fuel : Nat} {cs : List Value} {x : DataW H × List MemPlace} (h : DataW.trod enc Try.prog w 0 (fun _ => true) held fuel 22 cs = some x) :
    ∃ a L c, cs = [.slice a L.length c] ∧ L.length ≤ c ∧ RowsRaw w a L := by
  rcases open_slice1 Try.underlying22 (by kernel_rfl) h with ⟨h1, _⟩ | ⟨a, len, cap, m, n, V, D, Pl, h1, hb, hl, hm, hmm, hx, hc⟩
  · exact ⟨none, [], 0, h1, Nat.le_refl _, .inl rfl⟩
  · simp only [if_true] at hmm
    have each : ∀ i, i < len → ∃ q : Option Addr × List (Int × ByteArray) × Nat, V i = .slice q.1 q.2.1.length q.2.2 ∧ SegRaw w q.1 q.2.1 := by
      intro i hi
      obtain ⟨_, h2⟩ := hc i (by omega)
      obtain ⟨A, l, c, e1, _, e2⟩ := open_segs h2
      exact ⟨(A, l, c), by simpa using e1, e2⟩
    obtain ⟨q, hq⟩ := choose_lt each
    refine ⟨some a, (List.range len).map fun i => (q i).2.1, cap, by simpa using h1, by simpa using hl, ?_⟩
    by_cases h0 : len = 0
    · subst h0; exact .inl rfl
    · obtain ⟨b, off, spot⟩ := a
      have hspot : spot = none := by simpa [Addr.add] using World.cell?_spot (hc 0 (by omega)).1
      subst hspot
      have hlt : b < w.heap.size := by
        have := World.block_lt_of_cell? w _ (hc 0 (by omega)).1
        simpa [Addr.add] using this
      refine .inr ⟨b, off, rfl, hlt, fun i l hi => ?_⟩
      have hil := (List.getElem?_eq_some_iff.1 hi).1
      rw [List.length_map, List.length_range] at hil
      rw [List.getElem?_map, List.getElem?_range hil] at hi
      have hqi : (q i).2.1 = l := by simpa using hi
      obtain ⟨h2, _⟩ := hc i (by omega)
      rw [(hq i hil).1, hqi, Go.WideShapes.add_plain] at h2
      refine ⟨(q i).1, (q i).2.2, h2, ?_⟩
      rw [← hqi]
      exact (hq i hil).2

end
end Go.Proofs.Ytcobbbbnmepmfaa
