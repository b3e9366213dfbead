/- addRoute on a tree that isn't empty. -/
import Derived.Test.YtcobbbbnmepmfaaRoBelow
import Derived.Test.YtcobbbbnmepmfaaRoSplit
import Derived.Test.YtcobbbbnmepmfaaRoLcp
import Derived.Test.YtcobbbbnmepmfaaRoMp
import Derived.Deep.LoopGhost
namespace Go.Proofs.Ytcobbbbnmepmfaa
open Go Go.RowKit Go.Lib Tr

theorem roBody_eq : roBody = .block 1 (.seq roA roB) := by kernel_rfl
theorem roTail_eq : snd (snd (snd roB)) = .seq roC (.seq roD .ret) := by kernel_rfl

theorem ro_round {w0 w : World} {T0 : HT} {tag : Tag} {b : Nat} {p : ByteArray} {h : Option Nat} {kids : List HT} {s0 s : List Tok} {n np : Nat} {full pth : ByteArray} {k : Nat} {v8 : Value} {a : Act} (hl : full.size ≤ 2147483647) (hrk : rk pth tag ≤ k) (hL : LoopAt w0 T0 s0 n full pth tag b p h kids s np v8 a w) {Q : Exit → Act → World → Prop}
    (hN : ∀ a w, NextAt w0 T0 s0 n full k a w → Q .normal a w) (hR : ∀ a w, a.defers = [] → AddPost w0 T0 s0 n (.returned (.tuple #[])) w → Q .ret a w) (hP : ∀ ch a w, a.defers = [] → AddPost w0 T0 s0 n (.panicked ch) w → Q (.panic ch) a w) : roBody.wp Try.prog Q a w := by
  obtain ⟨hfr, hps, hnp, d, hat⟩ := hL
  obtain ⟨g, hg, ha⟩ := hfr.lit
  rw [ha, roBody_eq]
  refine wp_block (wp_seq (ro_mp _ _ _ _ _ _ _ _ _ _ _ _ _ _ _ _ _ _ _ _ _ _ _ _ _ _ _ _ _ _ _ _ _ _ _ _ _ _ _ _ _ _ _ _ _ _ _ _ _ _ _ _ _ _ _ _ _ _ _ _ _ _ _ _ _ _ _ _ _ _ _ _ _ _ _ _ _ _ _ _ _ _ _ _ _ _ _ _ _ _ _ _ _ _ _ _ _ _ _ _ _ _ _ _ _ _ _ _ _ _ _ _ _ _ _ _ _ _ _ _ _ _ _ _ _ _ _ _ _ _ _ _ _ _ _ _ _ _ _ _ _ _ _ _ _ _ _ _ _ _ _ _ _ _ _ _ _ _ _ _ _ _ _ _ _ _ _ _ _ _ _ _ _ _ _ _ _ _ _ _ _ _ _ _ _ _ _ _ _ _ _ _ _ _ _ _ _ _ _ _ _ _ _ _ _ _ _ _ _ _ _ _ _ _ _ _ _ _ _ _ _ _ _ _ _ _ _ _ _ _ _ _ _ _ _ _ _ _ _ _ _ _ _ _ _ _ _ _ _ _ _ _ _ _ _ _ _ _ _ _ _ _ _ _ _ _ _ _ _ _ _ _ _ _ _ _ _ _ _ _ _ _ _ _ _ _ _ _ _ _ _ _ _ _ _ _ _ _ _ _ _ _ _ _ _ _ _ _ _ _ _ _ _ _ _ _ _ _ _ _ _ _ _ _ _ _ _ _ _ _ _ _ _ _ _ _ _ _ _ _ _ _ _ _ _ _ _ _ _ _ _ _ _ _ _ _ _ _ _ _ _ _ _ _ _ _ _ _ _ _ _ _ _ _ _ _ _ _ _ _ _ _ _ _ _ _ _ _ _ _ _ _ _ _ _ _ _ _ _ _ _ _ _ _ _ _ _ _ _ _ _ _ _ _ _ hps hnp (Lib.hid hat) ?_))
  intro a' w' ⟨v8, hL⟩
  obtain ⟨hfr, hps, hnp, d, hat⟩ := hL
  obtain ⟨g, hg, ha⟩ := hfr.lit
  rw [ha]
  refine ro_lcp _ _ _ _ _ _ _ _ _ _ _ _ _ _ _ _ _ _ _ _ _ _ _ _ _ _ _ _ _ _ _ _ _ _ _ _ _ _ _ _ _ _ _ _ _ _ _ _ _ _ _ _ _ _ _ _ _ _ _ _ _ _ _ _ _ _ _ _ _ _ _ _ _ _ _ _ _ _ _ _ _ _ _ _ _ _ _ _ _ _ _ _ _ _ _ _ _ _ _ _ _ _ _ _ _ _ _ _ _ _ _ _ _ _ _ _ _ _ _ _ _ _ _ _ _ _ _ _ _ _ _ _ _ _ _ _ _ _ _ _ _ _ _ _ _ _ _ _ _ _ _ _ _ _ _ _ _ _ _ _ _ _ _ _ _ _ _ _ _ _ _ _ _ _ _ _ _ _ _ _ _ _ _ _ _ _ _ _ _ _ _ _ _ _ _ _ _ _ _ _ _ _ _ _ _ _ _ _ _ _ _ _ _ _ _ _ _ _ _ _ _ _ _ _ _ _ _ _ _ _ _ _ _ _ _ _ _ _ _ _ _ _ _ _ _ _ _ _ _ _ _ _ _ _ _ _ _ _ _ _ _ _ _ _ _ _ _ _ _ _ _ _ _ _ _ _ _ _ _ _ _ _ _ _ _ _ _ _ _ _ _ _ _ _ _ _ _ _ _ _ _ _ _ _ _ _ _ _ _ _ _ _ _ _ _ _ _ _ _ _ _ _ _ _ _ _ _ _ _ _ _ _ _ _ _ _ _ _ _ _ _ _ _ _ _ _ _ _ _ _ _ _ _ _ _ _ _ _ _ _ _ _ _ _ _ _ _ _ _ _ _ _ _ _ _ _ _ _ _ _ _ _ _ _ _ _ _ _ _ _ _ _ _ _ _ _ _ _ _ _ _ _ _ _ _ _ _ _ _ _ _ _ _ _ _ hps hnp (Lib.hid hat) ?_
  intro a' w' ⟨i, hL, hlcp⟩
  obtain ⟨hfr, hps, hnp, d, hat⟩ := hL
  obtain ⟨g, hg, ha⟩ := hfr.lit
  rw [ha, roTail_eq]
  have hnext : ∀ a' w', MidAt w0 T0 s0 n full pth tag b s np a' w' → (Code.seq roD .ret).wp Try.prog (Exit.inBlock 1 Q) a' w' := by
    intro a' w' hM
    refine wp_seq (wp_mono (ro_below hl hrk hM) ?_)
    intro e a w hq
    cases e with
    | normal => exact wp_ret (hR a w hq.1 hq.2)
    | ret => exact hR a w hq.1 hq.2
    | panic ch => exact hP ch a w hq.1 hq.2
    | goto l => exact hq.elim
    | outgrown => exact hq.elim
    | exit id =>
      by_cases hid : id = 1
      · subst hid
        have : NextAt w0 T0 s0 n full k a w := hq
        show Exit.inBlock 1 Q (.exit 1) a w
        simp only [Exit.inBlock, if_pos]
        exact hN a w this
      · exfalso
        unfold RoQ at hq
        split at hq
        · rename_i h1; cases h1
        · rename_i h1; cases h1
        · rename_i h1; exact hid (Exit.exit.inj h1)
        · rename_i h1; cases h1
        · exact hq
  cases h with
  | none => exact wp_seq (ro_split_none _ _ _ _ _ _ _ _ _ _ _ _ _ _ _ _ _ _ _ _ _ _ _ _ _ _ _ _ _ _ _ _ _ _ _ _ _ _ _ _ _ _ _ _ _ _ _ _ _ _ _ _ _ _ _ _ _ _ _ _ _ _ _ _ _ _ _ _ _ _ _ _ _ _ _ _ _ _ _ _ _ _ _ _ _ _ _ _ _ _ _ _ _ _ _ _ _ _ _ _ _ _ _ _ _ _ _ _ _ _ _ _ _ _ _ _ _ _ _ _ _ _ _ _ _ _ _ _ _ _ _ _ _ _ _ _ _ _ _ _ _ _ _ _ _ _ _ _ _ _ _ _ _ _ _ _ _ _ _ _ _ _ _ _ _ _ _ _ _ _ _ _ _ _ _ _ _ _ _ _ _ _ _ _ _ _ _ _ _ _ _ _ _ _ _ _ _ _ _ _ _ _ _ _ _ _ _ _ _ _ _ _ _ _ _ _ _ _ _ _ _ _ _ _ _ _ _ _ _ _ _ _ _ _ _ _ _ _ _ _ _ _ _ _ _ _ _ _ _ _ _ _ _ _ _ _ _ _ _ _ _ _ _ _ _ _ _ _ _ _ _ _ _ _ _ _ _ _ _ _ _ _ _ _ _ _ _ _ _ _ _ _ _ _ _ _ _ _ _ _ _ _ _ _ _ _ _ _ _ _ _ _ _ _ _ _ _ _ _ _ _ _ _ _ _ _ _ _ _ _ _ _ _ _ _ _ _ _ _ _ _ _ _ _ _ _ _ _ _ _ _ _ _ _ _ _ _ _ _ _ _ _ _ _ _ _ _ _ _ _ _ _ _ _ _ _ _ _ _ _ _ _ _ _ _ _ _ _ _ _ _ _ _ _ _ _ _ _ _ _ _ _ _ _ _ _ _ _ _ _ _ _ _ _ hps hnp (Lib.hid hat) (Lib.hid hlcp) hnext)
  | some hn => exact wp_seq (ro_split_some _ _ _ _ _ _ _ _ _ _ _ _ _ _ _ _ _ _ _ _ _ _ _ _ _ _ _ _ _ _ _ _ _ _ _ _ _ _ _ _ _ _ _ _ _ _ _ _ _ _ _ _ _ _ _ _ _ _ _ _ _ _ _ _ _ _ _ _ _ _ _ _ _ _ _ _ _ _ _ _ _ _ _ _ _ _ _ _ _ _ _ _ _ _ _ _ _ _ _ _ _ _ _ _ _ _ _ _ _ _ _ _ _ _ _ _ _ _ _ _ _ _ _ _ _ _ _ _ _ _ _ _ _ _ _ _ _ _ _ _ _ _ _ _ _ _ _ _ _ _ _ _ _ _ _ _ _ _ _ _ _ _ _ _ _ _ _ _ _ _ _ _ _ _ _ _ _ _ _ _ _ _ _ _ _ _ _ _ _ _ _ _ _ _ _ _ _ _ _ _ _ _ _ _ _ _ _ _ _ _ _ _ _ _ _ _ _ _ _ _ _ _ _ _ _ _ _ _ _ _ _ _ _ _ _ _ _ _ _ _ _ _ _ _ _ _ _ _ _ _ _ _ _ _ _ _ _ _ _ _ _ _ _ _ _ _ _ _ _ _ _ _ _ _ _ _ _ _ _ _ _ _ _ _ _ _ _ _ _ _ _ _ _ _ _ _ _ _ _ _ _ _ _ _ _ _ _ _ _ _ _ _ _ _ _ _ _ _ _ _ _ _ _ _ _ _ _ _ _ _ _ _ _ _ _ _ _ _ _ _ _ _ _ _ _ _ _ _ _ _ _ _ _ _ _ _ _ _ _ _ _ _ _ _ _ _ _ _ _ _ _ _ _ _ _ _ _ _ _ _ _ _ _ _ _ _ _ _ _ _ _ _ _ _ _ _ _ _ _ _ _ _ _ _ _ _ _ _ _ _ _ _ _ _ hps hnp (Lib.hid hat) (Lib.hid hlcp) hnext)

/-- The loop. -/
theorem ro_loop {w0 w : World} {T0 : HT} {s0 : List Tok} {n : Nat} {full : ByteArray} {k : Nat} {a : Act} (hl : full.size ≤ 2147483647) (hat : NextAt w0 T0 s0 n full k a w) {Q : Exit → Act → World → Prop}
    (hR : ∀ a w, a.defers = [] → AddPost w0 T0 s0 n (.returned (.tuple #[])) w → Q .ret a w) (hP : ∀ ch a w, a.defers = [] → AddPost w0 T0 s0 n (.panicked ch) w → Q (.panic ch) a w) : (Code.loop roBody).wp Try.prog Q a w := by
  refine wp_loop_ghost (fun k a w => NextAt w0 T0 s0 n full k a w) k hat ?_
  intro k a w ⟨pth, tag, b, p, h, kids, s, np, v8, hL, hrk⟩
  obtain ⟨k', rfl⟩ : ∃ k', k = k' + 1 := ⟨k - 1, by omega⟩
  refine ro_round (k := k') hl (by omega) hL ?_ hR hP
  intro a w hN
  exact ⟨k', by omega, hN⟩

end Go.Proofs.Ytcobbbbnmepmfaa
