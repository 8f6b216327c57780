import Derived.WalkKit
namespace Go.Proofs.Qxb6602870a
open Go.RowKit

theorem getD_mem_bd {m : Int} {l : List Int} (hl : ∀ x ∈ l, 0 ≤ x ∧ x ≤ m) (k : Nat) (h : k < l.length) : 0 ≤ l.getD k 0 ∧ l.getD k 0 ≤ m := by
  have e : l.getD k 0 = l[k] := by simp [List.getD, h]
  rw [e]; exact hl _ (List.getElem_mem _)
theorem drop_cons (l : List Int) (i : Nat) (h : i < l.length) : l.drop i = l.getD i 0 :: l.drop (i + 1) := by
  rw [List.drop_eq_getElem_cons h]; simp [List.getD, h]

def isSp (c : Int) : Bool := c == 32 || c == 9 || c == 10 || c == 13

/-- One byte of a JSON text: the state behind it. -/
def stepS (h c : Int) : Int :=
  if h = 1 then (if c = 34 then 2 else 1)
  else if h = 32 then (if c = 34 then 8 else if c = 58 then 1 else if isSp c = true then 32 else 1)
  else if h = 2 then (if c = 92 then 4 else if c = 34 then 1 else 2)
  else if h = 4 then 2
  else if h = 8 then (if c = 92 then 16 else if c = 34 then 32 else 8)
  else 8
/-- .. and whether it is the colon that makes a key. -/
def stepK (h c : Int) : Bool := h == 32 && c == 58

def run : Int → Bool → List Int → Int × Bool
  | h, k, [] => (h, k)
  | h, k, c :: l => run (stepS h c) (k || stepK h c) l

def St (h : Int) : Prop := h = 1 ∨ h = 2 ∨ h = 4 ∨ h = 8 ∨ h = 16 ∨ h = 32

theorem run_at (l : List Int) (j : Nat) (hj : j < l.length) (h : Int) (k : Bool) : run h k (l.drop j) = run (stepS h (l.getD j 0)) (k || stepK h (l.getD j 0)) (l.drop (j + 1)) := by
  rw [drop_cons l j hj]; rfl
theorem run_end (l : List Int) (j : Nat) (hj : l.length ≤ j) (h : Int) (k : Bool) : run h k (l.drop j) = (h, k) := by
  rw [List.drop_of_length_le hj]; rfl

theorem run_key (l : List Int) : ∀ (h : Int) (k : Bool), run h k l = ((run h false l).1, k || (run h false l).2) := by
  induction l with
  | nil => intro h k; simp [run]
  | cons c l ih =>
    intro h k
    simp only [run]
    rw [ih _ (k || stepK h c), ih _ (false || stepK h c)]
    simp [Bool.or_assoc]

theorem step_st {h c : Int} (hs : St h) : St (stepS h c) := by
  unfold St at *
  unfold stepS
  rcases hs with rfl | rfl | rfl | rfl | rfl | rfl <;> (repeat' split) <;> omega

theorem run_st (l : List Int) : ∀ (h : Int) (k : Bool), St h → St (run h k l).1 := by
  induction l with
  | nil => intro h k hs; exact hs
  | cons c l ih => intro h k hs; exact ih _ _ (step_st hs)

/-- The bit number n. -/
def pw (n : Nat) : Int := (2 : Int) ^ n

/-- What both functions gather over the bits below n. -/
def comb (at0 : Int) (l : List Int) : Nat → Int × Bool
  | 0 => (0, false)
  | n + 1 => if (bits BinOp.and IntKind.u8 at0 (pw n) == 0) = true then comb at0 l n
    else (bits BinOp.or IntKind.u8 (comb at0 l n).1 (run (pw n) false l).1, (comb at0 l n).2 || (run (pw n) false l).2)

theorem comb_skip {at0 : Int} {l : List Int} {n : Nat} (h : (bits BinOp.and IntKind.u8 at0 (pw n) == 0) = true) : comb at0 l (n + 1) = comb at0 l n := by
  rw [comb, if_pos h]
theorem comb_take {at0 : Int} {l : List Int} {n : Nat} (h : (bits BinOp.and IntKind.u8 at0 (pw n) == 0) = false) : comb at0 l (n + 1) = (bits BinOp.or IntKind.u8 (comb at0 l n).1 (run (pw n) false l).1, (comb at0 l n).2 || (run (pw n) false l).2) := by
  rw [comb, if_neg (by rw [h]; decide)]

theorem pw_cases {n : Nat} (h : n < 6) : St (pw n) := by
  unfold St pw
  rcases n with _ | _ | _ | _ | _ | _ | n
  all_goals first | omega | decide
end Go.Proofs.Qxb6602870a
