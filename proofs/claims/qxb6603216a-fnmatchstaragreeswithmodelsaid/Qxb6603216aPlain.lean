import Derived.Below
namespace Go.Proofs.Qxb6603216a

/-- A token, by its fields. -/
structure Tk where
  kind : Int
  b : Int
  s0 : Int
  s1 : Int
  s2 : Int
  s3 : Int
  neg : Bool

def Tk.zero : Tk := ⟨0, 0, 0, 0, 0, 0, false⟩

def Tk.word (t : Tk) (q : Nat) : Int := if q = 0 then t.s0 else if q = 1 then t.s1 else if q = 2 then t.s2 else t.s3
def Tk.has (t : Tk) (c : UInt8) : Bool := (t.word (c.toNat / 64)).toNat.testBit (c.toNat % 64)

/-- Does a one-byte token take the byte? -/
def one (t : Tk) (c : UInt8) : Bool :=
  if t.kind = 0 then decide ((c.toNat : Int) = t.b)
  else if t.kind = 1 then decide (c ≠ 47)
  else if t.kind = 2 then (decide (c ≠ 47) && (t.has c != t.neg))
  else true

def isSlash (t : Tk) : Bool := t.kind == 0 && t.b == 47
def headSlash : List Tk → Bool
  | [] => false
  | t :: _ => isSlash t

/-! ### The table -/
def starM (f : List UInt8 → Bool) : List UInt8 → Bool
  | [] => f []
  | c :: n => f (c :: n) || (decide (c ≠ 47) && starM f n)
def anyM (f : List UInt8 → Bool) : List UInt8 → Bool
  | [] => f []
  | c :: n => f (c :: n) || anyM f n
def oneM (t : Tk) (f : List UInt8 → Bool) : List UInt8 → Bool
  | [] => false
  | c :: n => f n && one t c

/-- What the tokens match, and what the tokens behind the first match. -/
def rowM (t : Tk) (slash : Bool) (f g : List UInt8 → Bool) (n : List UInt8) : Bool :=
  if t.kind = 3 then starM f n
  else if t.kind = 4 then (anyM f n || (slash && g n))
  else oneM t f n
def tabM : List Tk → (List UInt8 → Bool) × (List UInt8 → Bool)
  | [] => (fun n => n.isEmpty, fun _ => false)
  | t :: r => (rowM t (headSlash r) (tabM r).1 (tabM r).2, (tabM r).1)
def M (ts : List Tk) : List UInt8 → Bool := (tabM ts).1

theorem M_nil (n : List UInt8) : M [] n = n.isEmpty := rfl
theorem M_cons (t : Tk) (r : List Tk) (n : List UInt8) : M (t :: r) n = rowM t (headSlash r) (M r) (tabM r).2 n := rfl
theorem tabM2 (t : Tk) (r : List Tk) : (tabM (t :: r)).2 = M r := rfl

/-! ### The matcher -/
def loopO (crosses : Bool) (f : List UInt8 → Int) : List UInt8 → Int
  | [] => if f [] = 0 then 0 else if f [] = 2 then 2 else if f [] = 3 ∧ crosses = false then 3 else 2
  | c :: n => if f (c :: n) = 0 then 0 else if f (c :: n) = 2 then 2 else if f (c :: n) = 3 ∧ crosses = false then 3
      else if c = 47 ∧ crosses = false then 3 else loopO crosses f n

def starO (crosses : Bool) (r : List Tk) (f g : List UInt8 → Int) (n : List UInt8) : Int :=
  if r = [] then (if crosses = true ∨ ¬ (47 : UInt8) ∈ n then 0 else 1)
  else if crosses = true ∧ headSlash r = true ∧ g n = 0 then 0
  else loopO crosses f n

def oneO (t : Tk) (f : List UInt8 → Int) : List UInt8 → Int
  | [] => 2
  | c :: n => if one t c = true then f n else 1

def outO (t : Tk) (r : List Tk) (f g : List UInt8 → Int) (n : List UInt8) : Int :=
  if t.kind = 3 ∨ t.kind = 4 then starO (t.kind == 4) r f g n else oneO t f n
def tabO : List Tk → (List UInt8 → Int) × (List UInt8 → Int)
  | [] => (fun n => if n = [] then 0 else 1, fun _ => 1)
  | t :: r => (outO t r (tabO r).1 (tabO r).2, (tabO r).1)
def O (ts : List Tk) : List UInt8 → Int := (tabO ts).1

theorem O_nil (n : List UInt8) : O [] n = if n = [] then 0 else 1 := rfl
theorem O_cons (t : Tk) (r : List Tk) (n : List UInt8) : O (t :: r) n = outO t r (O r) (tabO r).2 n := rfl
theorem tabO2 (t : Tk) (r : List Tk) : (tabO (t :: r)).2 = O r := rfl
theorem O_star {t : Tk} (r : List Tk) (n : List UInt8) (h : t.kind = 3 ∨ t.kind = 4) : O (t :: r) n = starO (t.kind == 4) r (O r) (tabO r).2 n := by
  rw [O_cons, outO, if_pos h]
theorem O_one {t : Tk} (r : List Tk) (n : List UInt8) (h : ¬ (t.kind = 3 ∨ t.kind = 4)) : O (t :: r) n = oneO t (O r) n := by
  rw [O_cons, outO, if_neg h]

/-! ### The shape -/
def Sh : Bool → List Tk → Prop
  | _, [] => True
  | p, t :: r => (0 ≤ t.kind ∧ t.kind ≤ 4) ∧ (t.kind = 4 → p = true ∧ (r = [] ∨ headSlash r = true)) ∧ Sh (isSlash t) r

def notDbl : List Tk → Prop
  | [] => True
  | t :: _ => t.kind ≠ 4

/-- What an outcome says: sound at every shorter end of the name. -/
def Sound (ts : List Tk) (n : List UInt8) (o : Int) : Prop :=
  (o = 0 ∨ o = 1 ∨ o = 2 ∨ o = 3) ∧ (o = 0 ↔ M ts n = true) ∧
  (o = 2 → notDbl ts → ∀ d, M ts (n.drop d) = false) ∧
  (o = 2 → ∀ t r, ts = t :: r → t.kind = 4 → ∀ d, M r (n.drop d) = false) ∧
  (o = 3 → notDbl ts ∧ ∃ u v, n = u ++ 47 :: v ∧ ¬ (47 : UInt8) ∈ u ∧ ∀ d, d ≤ u.length → M ts (n.drop d) = false)

theorem anyM_iff (f : List UInt8 → Bool) (n : List UInt8) : anyM f n = true ↔ ∃ d, d ≤ n.length ∧ f (n.drop d) = true := by
  induction n with
  | nil => simp [anyM]
  | cons c n ih =>
    simp only [anyM, Bool.or_eq_true, ih]
    constructor
    · rintro (h | ⟨d, hd, h⟩)
      · exact ⟨0, by simp, by simpa using h⟩
      · exact ⟨d + 1, by simp; omega, by simpa using h⟩
    · rintro ⟨d, hd, h⟩
      cases d with
      | zero => exact .inl (by simpa using h)
      | succ d => exact .inr ⟨d, by simp at hd; omega, by simpa using h⟩

theorem starM_iff (f : List UInt8 → Bool) (n : List UInt8) : starM f n = true ↔ ∃ d, d ≤ n.length ∧ (∀ c ∈ n.take d, c ≠ 47) ∧ f (n.drop d) = true := by
  induction n with
  | nil => simp [starM]
  | cons c n ih =>
    simp only [starM, Bool.or_eq_true, Bool.and_eq_true, decide_eq_true_eq, ih]
    constructor
    · rintro (h | ⟨hc, d, hd, hs, h⟩)
      · exact ⟨0, by simp, by simp, by simpa using h⟩
      · refine ⟨d + 1, by simp; omega, ?_, by simpa using h⟩
        intro x hx
        simp at hx
        rcases hx with rfl | hx
        · exact hc
        · exact hs x hx
    · rintro ⟨d, hd, hs, h⟩
      cases d with
      | zero => exact .inl (by simpa using h)
      | succ d => exact .inr ⟨hs c (by simp), d, by simp at hd; omega, fun x hx => hs x (by simp [hx]), by simpa using h⟩
end Go.Proofs.Qxb6603216a
