import Derived.Test.Qxb6602322aRb
namespace Go.Proofs.Qxb6602322a
open Go.RowKit

def bodyN (pad ids : List Int) : Nat → List Int
  | 0 => []
  | k + 1 => bodyN pad ids k ++ ((if k = 0 then [] else 44 :: pad) ++ (dec (ids.getD k 0).toNat ++ pad))

theorem bodyN_len (pad ids : List Int) (k : Nat) : (bodyN pad ids k).length ≤ k * (2 * pad.length + 21) := by
  induction k with
  | zero => simp [bodyN]
  | succ k ih =>
    have h1 := (decF_len 19 (ids.getD k 0).toNat).2
    have h2 : (if k = 0 then ([] : List Int) else 44 :: pad).length ≤ pad.length + 1 := by split <;> simp
    rw [bodyN, Nat.succ_mul]
    simp only [List.length_append]
    unfold dec
    omega

theorem bodyN_tail (pad ids z : List Int) (k : Nat) : 1 ≤ k → k ≤ ids.length →
    bodyN pad ids k ++ wtail pad ((ids.map Int.toNat).drop k) z = dec (ids.getD 0 0).toNat ++ (pad ++ wtail pad ((ids.map Int.toNat).drop 1) z) := by
  induction k with
  | zero => intro h; omega
  | succ k ih =>
    intro _ h2
    by_cases hk : k = 0
    · subst hk; simp [bodyN, List.append_assoc]
    · rw [← ih (by omega) (by omega)]
      have e : (ids.map Int.toNat).drop k = (ids.getD k 0).toNat :: (ids.map Int.toNat).drop (k + 1) := by
        rw [List.drop_eq_getElem_cons (by simp; omega)]
        simp [List.getD, show k < ids.length from by omega]
      rw [e, bodyN, if_neg hk, wtail]
      simp [List.append_assoc]

theorem body_whole (pad ids z : List Int) (h : 0 < ids.length) :
    bodyN pad ids ids.length ++ (93 :: z) = dec (ids.getD 0 0).toNat ++ (pad ++ wtail pad ((ids.map Int.toNat).drop 1) z) := by
  have := bodyN_tail pad ids z ids.length (by omega) (Nat.le_refl _)
  rw [List.drop_of_length_le (by simp)] at this
  exact this

theorem vals_cons (ids : List Int) (h : 0 < ids.length) : ids.map Int.toNat = (ids.getD 0 0).toNat :: (ids.map Int.toNat).drop 1 := by
  cases ids with
  | nil => simp at h
  | cons a l => simp

theorem vals_back (ids : List Int) (hl : ∀ x ∈ ids, 0 ≤ x) : (ids.map Int.toNat).map (fun n : Nat => (n : Int)) = ids := by
  rw [List.map_map]
  conv => rhs; rw [← List.map_id ids]
  refine List.map_congr_left fun x hx => ?_
  have := hl x hx
  simp; omega

theorem zzb_yes (a0 a1 a2 a3 : Option Addr) (n0 c0 n1 c1 n2 c2 n3 c3 : Nat) (w : World) (h : n0 + n1 + n2 + n3 ≤ 1048576) :
    Calls Try.prog 19 #[.slice a0 n0 c0, .slice a1 n1 c1, .slice a2 n2 c2, .slice a3 n3 c3] w fun e w' => e = .returned (.bool true) ∧ w = w' := by
  go_enter Try.func19, Try.ntmps19
  go_wp2
  go_ret
  exact ⟨rfl, rfl⟩

theorem zzb_no (a0 a1 a2 a3 : Option Addr) (n0 c0 n1 c1 n2 c2 n3 c3 : Nat) (w : World) (h0 : n0 ≤ maxLen) (h1 : n1 ≤ maxLen) (h2 : n2 ≤ maxLen) (h3 : n3 ≤ maxLen) (h : ¬ n0 + n1 + n2 + n3 ≤ 1048576) :
    Calls Try.prog 19 #[.slice a0 n0 c0, .slice a1 n1 c1, .slice a2 n2 c2, .slice a3 n3 c3] w fun e w' => e = .returned (.bool false) ∧ w = w' := by
  unfold maxLen at h0 h1 h2 h3
  go_enter Try.func19, Try.ntmps19
  go_wp2
  all_goals
    go_ret
    exact ⟨rfl, rfl⟩

theorem bs_one (w : World) (c : Int) : Bs .u8 (w.alloc (.cells #[.int .u8 c] 5)) (some ⟨w.heap.size, 0, none⟩) [c] := by
  refine .inr ⟨_, 0, rfl, fun i hi => ?_⟩
  simp at hi; subst hi
  simp
end Go.Proofs.Qxb6602322a
