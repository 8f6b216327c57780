import Derived.Test.Qxb6602322aDec
import Derived.Laws.BytesArg
namespace Go.Proofs.Qxb6602322a
def u8 (n : Int) : UInt8 := UInt8.ofNat n.toNat

theorem foldl_acc (a : List Int) : ∀ acc : Int, a.foldl (fun a c => a * 10 + (c - 48)) acc = acc * 10 ^ a.length + valD a := by
  induction a with
  | nil => intro acc; simp [valD]
  | cons x a ih =>
    intro acc
    unfold valD
    rw [List.foldl_cons, List.foldl_cons, ih, ih, List.length_cons, Int.pow_succ']
    simp only [Int.add_mul, Int.zero_mul, Int.zero_add, Int.mul_assoc]
    omega

theorem valD_cons (x : Int) (a : List Int) : valD (x :: a) = (x - 48) * 10 ^ a.length + valD a := by
  show (x :: a).foldl _ 0 = _
  rw [List.foldl_cons, foldl_acc]; simp

theorem valD_lt (a : List Int) (ha : ∀ c ∈ a, isDg c) : 0 ≤ valD a ∧ valD a < 10 ^ a.length := by
  induction a with
  | nil => simp [valD]
  | cons x a ih =>
    have h1 := ih (fun c hc => ha c (by simp [hc]))
    have hx := ha x (by simp)
    unfold isDg at hx
    rw [valD_cons, List.length_cons, Int.pow_succ']
    have hp : (0 : Int) < 10 ^ a.length := by omega
    have h2 : (x - 48) * 10 ^ a.length ≤ 9 * 10 ^ a.length := Int.mul_le_mul_of_nonneg_right (by omega) (by omega)
    have h3 : 0 ≤ (x - 48) * 10 ^ a.length := Int.mul_nonneg (by omega) (by omega)
    omega

theorem u8_lt {x y : Int} (hx : isDg x) (hy : isDg y) (h : x < y) : u8 x < u8 y := by
  unfold isDg at hx hy; unfold u8
  rw [UInt8.lt_iff_toNat_lt]
  simp only [UInt8.toNat_ofNat']
  omega

theorem cmp_le (a : List Int) : ∀ b : List Int, a.length = b.length → (∀ c ∈ a, isDg c) → (∀ c ∈ b, isDg c) → valD a ≤ valD b →
    Op.bytesLess (a.map u8) (b.map u8) = true ∨ a = b := by
  induction a with
  | nil => intro b hl _ _ _; cases b with | nil => exact .inr rfl | cons y b => simp at hl
  | cons x a ih =>
    intro b hl ha hb hv
    cases b with
    | nil => simp at hl
    | cons y b =>
      simp only [List.length_cons] at hl
      have hx := ha x (by simp)
      have hy := hb y (by simp)
      have ha' := fun c hc => ha c (List.mem_cons_of_mem _ hc)
      have hb' := fun c hc => hb c (List.mem_cons_of_mem _ hc)
      have la := valD_lt a ha'
      have lb := valD_lt b hb'
      rw [valD_cons, valD_cons] at hv
      have hle : a.length = b.length := by omega
      rw [hle] at hv la
      have hp : (0 : Int) < 10 ^ b.length := by omega
      rcases Int.lt_trichotomy x y with h | h | h
      · left
        simp only [List.map_cons, Op.bytesLess, Bool.or_eq_true, decide_eq_true_eq]
        exact .inl (u8_lt hx hy h)
      · subst h
        rcases ih b hle ha' hb' (by omega) with h2 | h2
        · left
          simp [Op.bytesLess, h2]
        · exact .inr (by rw [h2])
      · exfalso
        have h2 : (y - 48 + 1) * 10 ^ b.length ≤ (x - 48) * 10 ^ b.length := Int.mul_le_mul_of_nonneg_right (by omega) (by omega)
        rw [Int.add_mul] at h2
        omega

def maxD : List Int := [49, 56, 52, 52, 54, 55, 52, 52, 48, 55, 51, 55, 48, 57, 53, 53, 49, 54, 49, 53]

theorem cmp20 (S : List Int) (hl : S.length = 20) (hd : ∀ c ∈ S, isDg c) (hv : valD S ≤ 18446744073709551615) :
    Op.bytesLess (strOfNums S).toList [49, 56, 52, 52, 54, 55, 52, 52, 48, 55, 51, 55, 48, 57, 53, 53, 49, 54, 49, 53] = true ∨ ((strOfNums S).toList == [49, 56, 52, 52, 54, 55, 52, 52, 48, 55, 51, 55, 48, 57, 53, 53, 49, 54, 49, 53]) = true := by
  have e : (strOfNums S).toList = S.map u8 := by
    rw [ByteArray.toList_eq, strOfNums_data]; rfl
  rw [e]
  have h := cmp_le S maxD (by rw [hl]; rfl) hd (by intro c hc; unfold isDg; simp [maxD] at hc; omega) (by rw [show valD maxD = 18446744073709551615 from by decide]; exact hv)
  have em : maxD.map u8 = [49, 56, 52, 52, 54, 55, 52, 52, 48, 55, 51, 55, 48, 57, 53, 53, 49, 54, 49, 53] := by decide
  rcases h with h | h
  · left; rw [em] at h; exact h
  · right; rw [h, em]; decide
end Go.Proofs.Qxb6602322a
