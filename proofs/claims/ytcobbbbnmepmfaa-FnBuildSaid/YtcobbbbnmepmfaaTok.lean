/- Routes as lists of tokens; when two of them can't stand together. No program in sight. -/
namespace Go.Proofs.Ytcobbbbnmepmfaa.Tr

abbrev Bytes := List UInt8

/-- A token: a byte of text, a parameter, all that is left (with its slash). -/
inductive Tok where
  | b (c : UInt8)
  | par (x : Bytes)
  | all (z : Bytes)
  deriving DecidableEq

/-- The text of tokens. -/
def enc : List Tok → Bytes
  | [] => []
  | .b c :: s => c :: enc s
  | .par x :: s => 58 :: (x ++ enc s)
  | .all z :: s => 47 :: 42 :: (z ++ enc s)

def bs (p : Bytes) : List Tok := p.map Tok.b

theorem enc_append : ∀ (s t : List Tok), enc (s ++ t) = enc s ++ enc t
  | [], t => rfl
  | .b c :: s, t => by simp [enc, enc_append s t]
  | .par x :: s, t => by simp [enc, enc_append s t]
  | .all z :: s, t => by simp [enc, enc_append s t]

theorem enc_bs : ∀ (p : Bytes), enc (bs p) = p
  | [] => rfl
  | c :: p => by
    have ih := enc_bs p
    simp only [bs] at ih
    simp [bs, enc, ih]

/-- The number of parameters, and of all that is left. -/
def cnt : List Tok → Nat
  | [] => 0
  | .b _ :: s => cnt s
  | .par _ :: s => cnt s + 1
  | .all _ :: s => cnt s + 1

theorem cnt_bs (p : Bytes) (s : List Tok) : cnt (bs p ++ s) = cnt s := by
  induction p with
  | nil => rfl
  | cons c p ih => simpa [bs, cnt] using ih

/-- Two routes that can't stand together. -/
def conf : List Tok → List Tok → Bool
  | [], [] => true
  | [], _ :: _ => false
  | _ :: _, [] => false
  | x :: a, y :: c =>
    if x = y then conf a c else
    match x, y with
    | .b _, .b _ => false
    | .b u, .all _ => u == 47
    | .all _, .b u => u == 47
    | _, _ => true

theorem conf_same (x : Tok) (a c : List Tok) : conf (x :: a) (x :: c) = conf a c := by simp [conf]
theorem conf_bs (p : Bytes) (a c : List Tok) : conf (bs p ++ a) (bs p ++ c) = conf a c := by
  induction p with
  | nil => rfl
  | cons u p ih => simpa [bs, conf] using ih
theorem conf_nil_cons (x : Tok) (a : List Tok) : conf [] (x :: a) = false := rfl
theorem conf_cons_nil (x : Tok) (a : List Tok) : conf (x :: a) [] = false := rfl
theorem conf_bb {u v : UInt8} (h : u ≠ v) (a c : List Tok) : conf (.b u :: a) (.b v :: c) = false := by simp [conf, h]
theorem conf_ball (u : UInt8) (z : Bytes) (a c : List Tok) : conf (.b u :: a) (.all z :: c) = (u == 47) := by simp [conf]
theorem conf_allb (u : UInt8) (z : Bytes) (a c : List Tok) : conf (.all z :: a) (.b u :: c) = (u == 47) := by simp [conf]
theorem conf_bpar (u : UInt8) (x : Bytes) (a c : List Tok) : conf (.b u :: a) (.par x :: c) = true := by simp [conf]
theorem conf_parb (u : UInt8) (x : Bytes) (a c : List Tok) : conf (.par x :: a) (.b u :: c) = true := by simp [conf]
theorem conf_parpar {x y : Bytes} (h : x ≠ y) (a c : List Tok) : conf (.par x :: a) (.par y :: c) = true := by simp [conf, h]
theorem conf_parall (x z : Bytes) (a c : List Tok) : conf (.par x :: a) (.all z :: c) = true := by simp [conf]
theorem conf_allpar (x z : Bytes) (a c : List Tok) : conf (.all z :: a) (.par x :: c) = true := by simp [conf]
theorem conf_allall {y z : Bytes} (h : y ≠ z) (a c : List Tok) : conf (.all y :: a) (.all z :: c) = true := by simp [conf, h]

theorem conf_comm : ∀ (a c : List Tok), conf a c = conf c a
  | [], [] => rfl
  | [], _ :: _ => rfl
  | _ :: _, [] => rfl
  | x :: a, y :: c => by
    by_cases h : x = y
    · subst h; rw [conf_same, conf_same, conf_comm a c]
    · have h' : ¬ y = x := fun e => h e.symm
      cases x <;> cases y <;> simp [conf, h, h']

/-- A byte of text: no mark of a parameter or of all that is left. -/
def plain (c : UInt8) : Prop := c ≠ 58 ∧ c ≠ 42
/-- A name. -/
def name (x : Bytes) : Prop := x ≠ [] ∧ ∀ c ∈ x, plain c ∧ c ≠ 47

/-- What may follow a parameter: nothing, or a slash. -/
def slashed : List Tok → Prop
  | [] => True
  | .b c :: _ => c = 47
  | .all _ :: _ => True
  | .par _ :: _ => False

/-- Tokens that are in order; 'sl': what stood ahead was a slash. -/
def Val : Bool → List Tok → Prop
  | _, [] => True
  | sl, .b c :: s => plain c ∧ (sl = true → c ≠ 47) ∧ Val (c == 47) s
  | sl, .par x :: s => sl = true ∧ name x ∧ slashed s ∧ Val false s
  | sl, .all z :: s => sl = false ∧ name z ∧ s = []

theorem Val.drop_bs : ∀ {p : Bytes} {sl : Bool} {s : List Tok}, Val sl (bs p ++ s) → p ≠ [] → Val (p.getLast? == some 47) s
  | [], _, _, _, h => absurd rfl h
  | [c], sl, s, h, _ => by
    have := h.2.2
    simpa [bs] using this
  | c :: e :: p, sl, s, h, _ => by
    have h1 : Val (c == 47) (bs (e :: p) ++ s) := h.2.2
    have := Val.drop_bs h1 (by simp)
    rwa [List.getLast?_cons_cons]

end Go.Proofs.Ytcobbbbnmepmfaa.Tr
