import Derived.Below
namespace Go.Proofs.Qxb6602322a

theorem getD_mem_bd {m : Int} {l : List Int} (hl : ∀ x ∈ l, 0 ≤ x ∧ x ≤ m) (k : Nat) (h : k < l.length) : 0 ≤ l.getD k 0 ∧ l.getD k 0 ≤ m := by
  have e : l.getD k 0 = l[k] := by simp [List.getD, h]
  rw [e]; exact hl _ (List.getElem_mem _)

theorem getD_app_left (l m : List Int) (i : Nat) (h : i < l.length) : (l ++ m).getD i 0 = l.getD i 0 := by
  simp [List.getD, List.getElem?_append_left h]
theorem getD_app_right (l m : List Int) (i : Nat) : (l ++ m).getD (l.length + i) 0 = m.getD i 0 := by
  simp [List.getD, List.getElem?_append_right]
theorem drop_cons (l : List Int) (i : Nat) (h : i < l.length) : l.drop i = l.getD i 0 :: l.drop (i + 1) := by
  rw [List.drop_eq_getElem_cons h]; simp [List.getD, h]

/-! What is left behind a place. -/
theorem at_cons {D : List Int} {i : Nat} {x : Int} {r : List Int} (h : D.drop i = x :: r) : i < D.length ∧ D.getD i 0 = x ∧ D.drop (i + 1) = r := by
  have hi : i < D.length := by
    by_cases hh : i < D.length
    · exact hh
    · rw [List.drop_of_length_le (by omega)] at h; cases h
  rw [drop_cons D i hi] at h
  cases h
  exact ⟨hi, rfl, rfl⟩
theorem at_app {D : List Int} {i : Nat} {a r : List Int} (h : D.drop i = a ++ r) : D.drop (i + a.length) = r := by
  rw [← List.drop_drop, h, List.drop_left]
theorem at_get {D : List Int} {i : Nat} {a r : List Int} (h : D.drop i = a ++ r) (j : Nat) (hj : j < a.length) : i + j < D.length ∧ D.getD (i + j) 0 = a.getD j 0 := by
  have hl : (D.drop i).length = a.length + r.length := by rw [h]; simp
  simp at hl
  refine ⟨by omega, ?_⟩
  have : (D.drop i).getD j 0 = a.getD j 0 := by rw [h]; exact getD_app_left _ _ _ hj
  rw [← this]
  simp [List.getD, List.getElem?_drop]

def isSp (c : Int) : Bool := c == 32 || c == 9 || c == 10 || c == 13
def skipN (l : List Int) (i : Nat) : Nat := i + ((l.drop i).takeWhile isSp).length
theorem skipN_step {l : List Int} {i : Nat} (h : i < l.length) (hs : isSp (l.getD i 0) = true) : skipN l i = skipN l (i + 1) := by
  unfold skipN
  rw [drop_cons l i h, List.takeWhile_cons_of_pos hs]; simp; omega
theorem skipN_no {l : List Int} {i : Nat} (h : i < l.length) (hs : isSp (l.getD i 0) = false) : skipN l i = i := by
  unfold skipN
  rw [drop_cons l i h, List.takeWhile_cons_of_neg (by rw [hs]; decide)]; simp
theorem skipN_end {l : List Int} {i : Nat} (h : l.length ≤ i) : skipN l i = i := by
  unfold skipN
  rw [List.drop_of_length_le h]; simp
theorem skipN_pad {D : List Int} {i : Nat} {p : List Int} {x : Int} {r : List Int} (h : D.drop i = p ++ (x :: r)) (hp : ∀ c ∈ p, isSp c = true) (hx : isSp x = false) : skipN D i = i + p.length := by
  unfold skipN
  rw [h, List.takeWhile_append_of_pos hp, List.takeWhile_cons_of_neg (by rw [hx]; decide)]
  simp

/-! Decimal digits. -/
def decF : Nat → Nat → List Int
  | 0, v => [48 + ((v % 10 : Nat) : Int)]
  | f + 1, v => if v < 10 then [48 + (v : Int)] else decF f (v / 10) ++ [48 + ((v % 10 : Nat) : Int)]
def dec (v : Nat) : List Int := decF 19 v
def valD (l : List Int) : Int := l.foldl (fun a c => a * 10 + (c - 48)) 0
def isDg (c : Int) : Prop := 48 ≤ c ∧ c ≤ 57

theorem valD_snoc (l : List Int) (c : Int) : valD (l ++ [c]) = valD l * 10 + (c - 48) := by
  unfold valD; rw [List.foldl_append]; rfl

theorem decF_len (f : Nat) : ∀ v, 1 ≤ (decF f v).length ∧ (decF f v).length ≤ f + 1 := by
  induction f with
  | zero => intro v; simp [decF]
  | succ f ih =>
    intro v
    unfold decF
    split
    · simp
    · have := ih (v / 10); simp; omega

theorem decF_dig (f : Nat) : ∀ v, ∀ c ∈ decF f v, isDg c := by
  induction f with
  | zero => intro v c hc; simp [decF] at hc; subst hc; unfold isDg; omega
  | succ f ih =>
    intro v c hc
    unfold decF at hc
    split at hc
    · simp at hc; subst hc; unfold isDg; omega
    · simp at hc
      rcases hc with hc | hc
      · exact ih _ _ hc
      · subst hc; unfold isDg; omega

theorem decF_val (f : Nat) : ∀ v, v < 10 ^ (f + 1) → valD (decF f v) = v := by
  induction f with
  | zero => intro v hv; simp [decF, valD]; omega
  | succ f ih =>
    intro v hv
    unfold decF
    split
    · simp [valD]; omega
    · rw [valD_snoc, ih (v / 10) (by rw [Nat.div_lt_iff_lt_mul (by omega)]; rw [Nat.pow_succ] at hv; exact hv)]
      omega

theorem decF_lead (f : Nat) : ∀ v, v < 10 ^ (f + 1) → 10 ≤ v → (decF f v).getD 0 0 ≠ 48 := by
  induction f with
  | zero => intro v hv h; simp at hv; omega
  | succ f ih =>
    intro v hv h
    unfold decF
    rw [if_neg (by omega), getD_app_left _ _ _ (by have := decF_len f (v / 10); omega)]
    have hv' : v / 10 < 10 ^ (f + 1) := by rw [Nat.div_lt_iff_lt_mul (by omega)]; rw [Nat.pow_succ] at hv; exact hv
    by_cases h10 : 10 ≤ v / 10
    · exact ih _ hv' h10
    · cases f with
      | zero => simp [decF]; omega
      | succ f => unfold decF; rw [if_pos (by omega)]; simp; omega

theorem dec_short (f v : Nat) (h : v < 10) : decF f v = [48 + (v : Int)] := by
  cases f with
  | zero => simp [decF]; omega
  | succ f => unfold decF; rw [if_pos h]

theorem valD_app (b : List Int) : ∀ (a : List Int), (∀ c ∈ b, isDg c) → 0 ≤ valD a → valD a ≤ valD (a ++ b) := by
  induction b with
  | nil => intro a _ _; simp
  | cons c b ih =>
    intro a hb ha
    have hc := hb c (by simp)
    unfold isDg at hc
    have e : a ++ c :: b = (a ++ [c]) ++ b := by simp
    have h1 := valD_snoc a c
    have := ih (a ++ [c]) (fun x hx => hb x (by simp [hx])) (by omega)
    rw [e]
    omega

theorem valD_nonneg (a : List Int) (ha : ∀ c ∈ a, isDg c) : 0 ≤ valD a := by
  have := valD_app a [] ha (by simp [valD])
  simpa [valD] using this

theorem valD_take (a : List Int) (ha : ∀ c ∈ a, isDg c) (j : Nat) : 0 ≤ valD (a.take j) ∧ valD (a.take j) ≤ valD a := by
  have h0 := valD_nonneg (a.take j) (fun c hc => ha c (List.mem_of_mem_take hc))
  refine ⟨h0, ?_⟩
  have := valD_app (a.drop j) (a.take j) (fun c hc => ha c (List.mem_of_mem_drop hc)) h0
  rwa [List.take_append_drop] at this

theorem take_snoc (a : List Int) (j : Nat) (h : j < a.length) : a.take (j + 1) = a.take j ++ [a.getD j 0] := by
  rw [List.take_succ_eq_append_getElem h]; simp [List.getD, h]

end Go.Proofs.Qxb6602322a
