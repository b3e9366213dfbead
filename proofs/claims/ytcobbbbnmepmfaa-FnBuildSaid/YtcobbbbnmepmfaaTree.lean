/- The tree of nodes as it lies in memory, and what it holds as routes. -/
import Derived.Test.YtcobbbbnmepmfaaTok
import Derived.WalkKit
import Derived.Lib.Hide
import Derived.Deep.OwnRows
import Derived.Deep.Draws
namespace Go.Proofs.Ytcobbbbnmepmfaa.Tr
open Go Go.RowKit

/-- static · with a parameter below · a parameter · ahead of all that is left · all that is left -/
inductive Tag where
  | st | wc | pm | ch | cl
  deriving DecidableEq

/-- What of a node doesn't bear on its routes: type (0, 1 of static ones), maxParams, priority, indices, the block of the children's array with its spare cells. -/
structure Dec where
  nt : Nat
  mp : Nat
  pr : Int
  ix : ByteArray
  arr : Option (Nat × List Value)

inductive HT where
  | mk (tag : Tag) (b : Nat) (d : Dec) (p : ByteArray) (h : Option Nat) (kids : List HT)

namespace HT
def tag : HT → Tag | mk t _ _ _ _ _ => t
def b : HT → Nat | mk _ b _ _ _ _ => b
def d : HT → Dec | mk _ _ d _ _ _ => d
def p : HT → ByteArray | mk _ _ _ p _ _ => p
def h : HT → Option Nat | mk _ _ _ _ h _ => h
def kids : HT → List HT | mk _ _ _ _ _ k => k
end HT

def Tag.wild : Tag → Bool
  | .wc => true
  | .ch => true
  | _ => false

def Tag.nt : Tag → Nat → Nat
  | .st, n => n
  | .wc, n => n
  | .pm, _ => 2
  | .ch, _ => 3
  | .cl, _ => 3

def hV : Option Nat → Value
  | none => .nilIface
  | some n => .iface 3 (.int .i64 (n : Int))

def arrV : Option (Nat × List Value) → Nat → Value
  | none, _ => .slice none 0 0
  | some (g, sp), n => .slice (some ⟨g, 0, none⟩) n (n + sp.length)

/-- A node's eight cells. -/
def vals (tag : Tag) (d : Dec) (p : ByteArray) (h : Option Nat) (n : Nat) : Array Value :=
  #[.string p, .bool tag.wild, .int .u8 (tag.nt d.nt : Nat), .int .u8 (d.mp : Nat), .int .u32 d.pr, .string d.ix, arrV d.arr n, hV h]

def ptr (t : HT) : Value := .pointer (some ⟨t.b, 0, none⟩)

/-- A node lies in the world (its children not looked at). -/
def NodeOk (w : World) : HT → Prop
  | .mk tag b d p h kids =>
    (∃ ty, w.heap[b]? = some (.cells (vals tag d p h kids.length) ty (0, 0))) ∧
    match d.arr with
    | none => kids = []
    | some (g, sp) => w.heap[g]? = some (.cells (kids.map ptr ++ sp).toArray 76 (0, 0)) ∧ kids.length + sp.length ≤ maxLen

mutual
/-- All nodes. -/
def nodes : HT → List HT
  | .mk tag b d p h kids => .mk tag b d p h kids :: nodesL kids
def nodesL : List HT → List HT
  | [] => []
  | k :: r => nodes k ++ nodesL r
end

/-- A node's own blocks. -/
def own : HT → List Nat
  | .mk _ b d _ _ _ => match d.arr with
    | none => [b]
    | some (g, _) => [b, g]

def blocks (t : HT) : List Nat := (nodes t).flatMap own
def blocksL (l : List HT) : List Nat := (nodesL l).flatMap own

/-- The tree lies in the world; no block is met twice. -/
structure Rep (w : World) (t : HT) : Prop where
  ok : ∀ n ∈ nodes t, NodeOk w n
  nd : (blocks t).Nodup

/-- A node's own tokens. -/
def toks : Tag → Bytes → List Tok
  | .st, p => bs p
  | .wc, p => bs p
  | .pm, p => [.par p.tail]
  | .ch, _ => []
  | .cl, p => [.all (p.drop 2)]

def endR : Option Nat → List (List Tok × Nat)
  | none => []
  | some n => [([], n)]

def pre (q : List Tok) (l : List (List Tok × Nat)) : List (List Tok × Nat) := l.map fun r => (q ++ r.1, r.2)

mutual
/-- The routes that a node holds, with their numbers. -/
def R : HT → List (List Tok × Nat)
  | .mk tag _ _ p h kids => pre (toks tag p.data.toList) (endR h ++ RL kids)
def RL : List HT → List (List Tok × Nat)
  | [] => []
  | k :: r => R k ++ RL r
end

/-- The byte by which a node is found among its parent's indices. -/
def key (t : HT) : UInt8 := t.p.data.toList.head?.getD 47

/-- The greatest number of parameters behind. -/
def bound (m : Nat) (l : List (List Tok × Nat)) : Prop := ∀ r ∈ l, cnt r.1 ≤ m

/-- What holds of a node by itself. -/
def Shape : HT → Prop
  | .mk .st _ d p h kids => d.nt < 2 ∧ (∀ c ∈ p.data.toList, plain c) ∧ (∀ k ∈ kids, k.tag = .st ∨ k.tag = .wc ∨ k.tag = .ch) ∧ d.ix.data.toList = kids.map key ∧ (kids.map key).Nodup ∧
      (h = none → kids ≠ []) ∧ (p.data.toList = [] → h = none ∧ ∃ k, kids = [k] ∧ k.tag = .ch)
  | .mk .wc _ d p _ kids => d.nt < 2 ∧ (∀ c ∈ p.data.toList, plain c) ∧ p.data.toList.getLast? = some 47 ∧ d.ix.data.toList = [] ∧ ∃ k, kids = [k] ∧ k.tag = .pm
  | .mk .pm b d p h kids => (∃ x, name x ∧ p.data.toList = 58 :: x) ∧ bound d.mp (R (.mk .pm b d p h kids)) ∧ d.mp ≤ 255 ∧ (h = none → kids ≠ []) ∧
      (kids = [] ∧ d.ix.data.toList = [] ∨ ∃ k, kids = [k] ∧ (k.tag = .st ∨ k.tag = .wc) ∧ key k = 47 ∧ (d.ix.data.toList = [] ∨ d.ix.data.toList = [47]))
  | .mk .ch _ d p h kids => p.data.toList = [] ∧ h = none ∧ d.ix.data.toList = [] ∧ ∃ k, kids = [k] ∧ k.tag = .cl
  | .mk .cl _ d p h kids => (∃ z, name z ∧ p.data.toList = 47 :: 42 :: z) ∧ kids = [] ∧ h ≠ none ∧ d.ix.data.toList = [] ∧ d.mp = 1

/-- The tree is in order. -/
def Wf (t : HT) : Prop := ∀ n ∈ nodes t, Shape n

/-- Outside the blocks S the world is as it was. -/
structure Kept (S : List Nat) (w w' : World) : Prop where
  os : w'.os = w.os
  tape : w'.tape = w.tape
  output : w'.output = w.output
  size : w.heap.size ≤ w'.heap.size
  block : ∀ k, k < w.heap.size → k ∉ S → w'.heap[k]? = w.heap[k]?

end Go.Proofs.Ytcobbbbnmepmfaa.Tr
