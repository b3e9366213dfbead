/- A route is registered; a panic is caught. -/
import Derived.Test.YtcobbbbnmepmfaaFirst
import Derived.Defers
import Derived.Recover
import Derived.Laws.Pointers
namespace Go.Proofs.Ytcobbbbnmepmfaa
open Go Go.RowKit Go.Lib Tr

theorem catch_panicking (p : Addr) (u : TypeId) (pv : Value) (older : List PanicEntry) (w : World) (hc : w.cell? p = some (.bool false)) (hz : w.frozen? p = false) :
    CallsD Try.prog 35 #[.pointer (some p)] (.panicking ({ v := .iface u pv, recovered := false } :: older)) w fun e u' w' =>
      e = .returned (.tuple #[]) ∧ u' = .panicking ({ v := .iface u pv, recovered := true } :: older) ∧ w' = w.setCell p (.bool false) := by
  refine callsD_of_wpS Try.func35 rfl fun c₀ cs hu => ?_
  apply wpS_region
  simp [wpOpsS, go_sem, recoverD, hu, Try.ntmps35, Exit.thenS, hc, hz, bodyPostS, results, Try.results35]

theorem catch_idle (p : Addr) (x : Bool) (w : World) (hc : w.cell? p = some (.bool x)) (hz : w.frozen? p = false) :
    CallsD Try.prog 35 #[.pointer (some p)] .returning w fun e u' w' => e = .returned (.tuple #[]) ∧ u' = .returning ∧ w' = w.setCell p (.bool true) := by
  refine callsD_of_wpS Try.func35 rfl fun c₀ cs hu => ?_
  apply wpS_region
  simp [wpOpsS, go_sem, recoverD, hu, Try.ntmps35, Exit.thenS, hc, hz, bodyPostS, results, Try.results35]
  cases c₀
  simp_all


/-- A contract of addRoute is one of Add. -/
theorem add_of {rb : Nat} {full : ByteArray} {n : Nat} {w : World} {P : Ending → World → Prop} (h : Calls Try.prog 37 #[.pointer (some ⟨rb, 0, none⟩), .string full, .iface 3 (.int .i64 (n : Int))] w P) (hp : ∀ e w', P e w' → e = .returned (.tuple #[]) ∨ Panics e) :
    Calls Try.prog 36 #[.pointer (some ⟨rb, 0, none⟩), .string full, .int .i64 (n : Int)] w P := by
  have H : Hid (Calls Try.prog 37 #[.pointer (some ⟨rb, 0, none⟩), .string full, .iface 3 (.int .i64 (n : Int))] w fun e w' => P e w' ∧ (e = .returned (.tuple #[]) ∨ ∃ t v, e = .panicked [{ v := .iface t v, recovered := false }])) := h.mono fun e w' hpp => ⟨hpp, hp e w' hpp⟩
  clear h hp
  go_enter Try.func36, Try.ntmps36
  go_wp2_with (go_at_call 37; refine H.out.mono ?_; rintro e w' ⟨hpp, rfl | ⟨t, v, rfl⟩⟩)
  · go_end0
    exact hpp
  · exact ⟨rfl, hpp⟩

theorem TreeAt.same {w w' : World} {t : HT} {l : List (List Tok × Nat)} (h : TreeAt w t l) (he : ∀ x ∈ blocks t, w'.heap[x]? = w.heap[x]?) : TreeAt w' t l := ⟨h.rep.same he, h.wf, h.stat, h.key, h.r⟩

/-- What added leaves. -/
def AddedPost (w : World) (rb : Nat) (S : List Nat) (l : List (List Tok × Nat)) (s : List Tok) (n : Nat) (e : Ending) (w' : World) : Prop :=
  ∃ B : Bool, e = .returned (.bool B) ∧ ((B = true ∧ ¬ Bad l s ∧ ∃ t', TreeAt w' t' ((s, n) :: l) ∧ t'.b = rb ∧ ∀ x ∈ blocks t', x ∈ S ∨ w.heap.size ≤ x) ∨ (B = false ∧ Bad l s)) ∧ Kept S w w'

set_option maxHeartbeats 8000000 in
set_option maxRecDepth 100000 in
theorem added_of {rb : Nat} {full : ByteArray} {n : Nat} {w : World} {S : List Nat} {l : List (List Tok × Nat)} {s : List Tok} (hS : ∀ x ∈ S, x < w.heap.size)
    (h : Calls Try.prog 37 #[.pointer (some ⟨rb, 0, none⟩), .string full, .iface 3 (.int .i64 (n : Int))] (w.alloc (.cells #[.bool false] 4)) (RoutePost2 (w.alloc (.cells #[.bool false] 4)) rb S l s n)) :
    Calls Try.prog 33 #[.pointer (some ⟨rb, 0, none⟩), .string full, .int .i64 (n : Int)] w (AddedPost w rb S l s n) := by
  have hmf : ∀ (fn : Fn) (first cap : Array Value) (w : World), (Instr.makeFunc fn first cap).run Try.prog w = .ok (.func fn first cap) w := fun _ _ _ _ => rfl
  have hadd := add_of h (by
    rintro e w' (⟨_, h1, _⟩ | ⟨_, h1, _⟩)
    · exact .inl h1
    · exact .inr h1)
  have hN : ∀ w', Kept S (w.alloc (.cells #[.bool false] 4)) w' → w'.heap[w.heap.size]? = some (.cells #[.bool false] 4 (0, 0)) := by
    intro w' hk
    rw [hk.block w.heap.size (by rw [alloc_size]; omega) (fun hx => by have := hS _ hx; omega)]
    exact alloc_at _ _
  have hKK : ∀ w' v, Kept S (w.alloc (.cells #[.bool false] 4)) w' → Kept S w (w'.setCell ⟨w.heap.size, 0, none⟩ v) := by
    intro w' v hk
    exact (((Kept.refl S w).alloc _).trans hk (fun x hx => .inl hx)).setCell (p := ⟨w.heap.size, 0, none⟩) (.inr (Nat.le_refl _)) v
  have HADD : Hid (Calls Try.prog 36 #[.pointer (some ⟨rb, 0, none⟩), .string full, .int .i64 (n : Int)] (w.alloc (.cells #[.bool false] 4)) fun e w' => (w'.cell? ⟨w.heap.size, 0, none⟩ = some (.bool false) ∧ w'.frozen? ⟨w.heap.size, 0, none⟩ = false) ∧
      ((e = .returned (.tuple #[]) ∧ Hid (∀ v, AddedPost w rb S l s n (.returned (.bool true)) ((w'.setCell ⟨w.heap.size, 0, none⟩ v).setCell ⟨w.heap.size, 0, none⟩ (.bool true)))) ∨ ((∃ t v, e = .panicked [{ v := .iface t v, recovered := false }]) ∧ Hid (AddedPost w rb S l s n (.returned (.bool false)) (w'.setCell ⟨w.heap.size, 0, none⟩ (.bool false)))))) := by
    refine hadd.mono ?_
    rintro e w' (⟨h1, h2, ⟨t', ht, htb, hsub⟩, hk⟩ | ⟨h1, h2, hk⟩)
    · have hrow := hN w' hk
      refine ⟨⟨by rw [cell_of_row8 hrow]; rfl, free_of_row8 hrow 0⟩, .inl ⟨h2, ?_⟩⟩
      intro v
      refine ⟨true, rfl, .inl ⟨rfl, h1, t', ht.same ?_, htb, ?_⟩, (hKK w' v hk).setCell (p := ⟨w.heap.size, 0, none⟩) (.inr (Nat.le_refl _)) _⟩
      · intro x hx
        have hne : x ≠ w.heap.size := by
          rcases hsub x hx with h3 | h3
          · have := hS x h3; omega
          · rw [alloc_size] at h3; omega
        rw [Below.heap_setCell _ _ _ _ (by simpa using hne), Below.heap_setCell _ _ _ _ (by simpa using hne)]
      · intro x hx
        rcases hsub x hx with h3 | h3
        · exact .inl h3
        · rw [alloc_size] at h3
          right; omega
    · have hrow := hN w' hk
      exact ⟨⟨by rw [cell_of_row8 hrow]; rfl, free_of_row8 hrow 0⟩, .inr ⟨h2, ⟨false, rfl, .inr ⟨rfl, h1⟩, hKK w' _ hk⟩⟩⟩
  clear hadd h hN hKK hS
  go_enter_defers Try.func33, Try.ntmps33
  go_wp2_with (go_at_call 36; refine HADD.out.mono ?_; rintro e w' ⟨⟨hc, hf⟩, ⟨rfl, hpp⟩ | ⟨⟨t, v, rfl⟩, hpp⟩⟩)
  · refine leaves_cons (f := 35) (args := #[.pointer (some ⟨w.heap.size, 0, none⟩)]) (by simp) (by simp [go_sem]) ?_
    refine (catch_idle ⟨w.heap.size, 0, none⟩ true _ ?_ ?_).mono ?_
    · simp [go_sem, hc]
    · simp [go_sem, hf]
    rintro e u' w'' ⟨rfl, rfl, rfl⟩
    simp [Leaves, settle, results, Try.results33, go_sem, hc]
    exact hpp.out _
  · refine leaves_cons (f := 35) (args := #[.pointer (some ⟨w.heap.size, 0, none⟩)]) (by simp) (by simp [go_sem]) ?_
    refine (catch_panicking ⟨w.heap.size, 0, none⟩ _ _ [] _ hc hf).mono ?_
    rintro e u' w'' ⟨rfl, rfl, rfl⟩
    simp [Leaves, settle, results, Try.results33, go_sem, hc]
    exact hpp.out

end Go.Proofs.Ytcobbbbnmepmfaa
