import Derived.Below
namespace Go.Proofs.Qxb6601854a

theorem getD_mem_bd {l : List Int} (hl : ∀ x ∈ l, 0 ≤ x ∧ x ≤ 255) (k : Nat) (h : k < l.length) : 0 ≤ l.getD k 0 ∧ l.getD k 0 ≤ 255 := by
  have e : l.getD k 0 = l[k] := by simp [List.getD, h]
  rw [e]; exact hl _ (List.getElem_mem _)

def isSp (c : Int) : Bool := c == 32 || c == 9 || c == 13 || c == 10
def isSep (c : Int) : Bool := c == 58 || c == 44
def skipN (l : List Int) (i : Nat) : Nat := i + ((l.drop i).takeWhile isSp).length
def skipZ (l : List Int) (i : Int) : Int := skipN l i.toNat

theorem drop_cons (l : List Int) (i : Nat) (h : i < l.length) : l.drop i = l.getD i 0 :: l.drop (i + 1) := by
  rw [List.drop_eq_getElem_cons h]; simp [List.getD, h]

theorem skipN_step {l : List Int} {i : Nat} (h : i < l.length) (hs : isSp (l.getD i 0) = true) : skipN l i = skipN l (i + 1) := by
  unfold skipN
  rw [drop_cons l i h, List.takeWhile_cons_of_pos hs]; simp; omega

theorem skipN_no {l : List Int} {i : Nat} (h : i < l.length) (hs : isSp (l.getD i 0) = false) : skipN l i = i := by
  unfold skipN
  rw [drop_cons l i h, List.takeWhile_cons_of_neg (by rw [hs]; decide)]; simp

theorem skipN_end {l : List Int} {i : Nat} (h : l.length ≤ i) : skipN l i = i := by
  unfold skipN
  rw [List.drop_of_length_le h]; simp

theorem skipN_ge (l : List Int) (i : Nat) : i ≤ skipN l i := by unfold skipN; omega

theorem skipN_le {l : List Int} {i : Nat} (h : i ≤ l.length) : skipN l i ≤ l.length := by
  unfold skipN
  have := (List.takeWhile_prefix (l := l.drop i) isSp).length_le
  simp at this; omega

theorem takeWhile_all (p : Int → Bool) (l : List Int) : ∀ x ∈ l.takeWhile p, p x = true := by
  induction l with
  | nil => simp
  | cons a l ih =>
    cases h : p a with
    | false => simp [h]
    | true => simp only [List.takeWhile_cons, h]; intro x hx; simp at hx; rcases hx with rfl | hx; exact h; exact ih x hx

/-- All bytes that are passed are blanks. -/
theorem skipN_all {l : List Int} {i j : Nat} (h1 : i ≤ j) (h2 : j < skipN l i) : isSp (l.getD j 0) = true := by
  unfold skipN at h2
  have hp := List.takeWhile_prefix (l := l.drop i) isSp
  have hlt : j - i < ((l.drop i).takeWhile isSp).length := by omega
  have e : ((l.drop i).takeWhile isSp)[j - i]'hlt = (l.drop i)[j - i]'(by have := hp.length_le; omega) := hp.getElem hlt
  have := takeWhile_all isSp (l.drop i) _ (List.getElem_mem hlt)
  rw [e] at this
  have hj : j < l.length := by have := hp.length_le; simp at this; omega
  simp only [List.getElem_drop] at this
  rw [show l.getD j 0 = l[j] from by simp [List.getD, hj]]
  rw [← this]; congr 2; omega

/-- The byte at which it stops is no blank. -/
theorem skipN_stop {l : List Int} {i : Nat} (h : skipN l i < l.length) : isSp (l.getD (skipN l i) 0) = false := by
  obtain ⟨n, hn⟩ : ∃ n, n = l.length - i := ⟨_, rfl⟩
  induction n generalizing i with
  | zero => rw [skipN_end (by omega)] at h; omega
  | succ n ih =>
    have hi : i < l.length := by omega
    cases hs : isSp (l.getD i 0) with
    | true => rw [skipN_step hi hs] at h ⊢; exact ih h (by omega)
    | false => rw [skipN_no hi hs]; exact hs

/-- It is the one place where all before are blanks and it itself is none. -/
theorem skipN_uniq {l : List Int} {i j : Nat} (h1 : i ≤ j) (h2 : j ≤ l.length) (h3 : ∀ k, i ≤ k → k < j → isSp (l.getD k 0) = true) (h4 : j < l.length → isSp (l.getD j 0) = false) : skipN l i = j := by
  have hle := skipN_le (l := l) (i := i) (by omega)
  have hge := skipN_ge l i
  rcases Nat.lt_trichotomy (skipN l i) j with h | h | h
  · have a := skipN_stop (l := l) (i := i) (by omega)
    have b := h3 _ hge h
    rw [a] at b; cases b
  · exact h
  · have a := skipN_all h1 h
    have b := h4 (by omega)
    rw [a] at b; cases b

def vstart (l : List Int) (o : Nat) : Nat :=
  if skipN l o < l.length ∧ isSep (l.getD (skipN l o) 0) = true then skipN l (skipN l o + 1) else skipN l o

end Go.Proofs.Qxb6601854a
