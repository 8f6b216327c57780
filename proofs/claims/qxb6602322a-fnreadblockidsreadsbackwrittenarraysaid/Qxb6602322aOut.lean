import Derived.Test.Qxb6602322aBody
namespace Go.Proofs.Qxb6602322a
open Go.RowKit

set_option maxRecDepth 100000 in
set_option maxHeartbeats 1000000 in
theorem rba_out (a0 a1 a2 a3 : Option Addr) (n0 c0 n1 c1 n2 c2 n3 c3 : Nat) (w : World) (h0 : n0 ≤ maxLen) (h1 : n1 ≤ maxLen) (h2 : n2 ≤ maxLen) (h3 : n3 ≤ maxLen)
    (h : ¬ (n0 + 8 * n1 + n2 + n3 ≤ 1048576 ∧ n0 + n3 + n2 + 2 + n1 * (2 * n2 + 21) ≤ 4194304)) :
    Calls Try.prog 6 #[.slice a0 n0 c0, .slice a1 n1 c1, .slice a2 n2 c2, .slice a3 n3 c3] w fun e w' => e = .returned (.bool true) ∧ Below w.heap.size w w' := by
  by_cases ht : n0 + n1 + n2 + n3 ≤ 1048576
  · by_cases hn : n1 ≤ 131072
    · by_cases h8 : n0 + 8 * n1 + n2 + n3 ≤ 1048576
      · obtain ⟨q, hq⟩ : ∃ q : Nat, n1 * (2 * n2 + 21) = q := ⟨_, rfl⟩
        have hqz : (n1 : Int) * (2 * (n2 : Int) + 21) = (q : Int) := by rw [← hq]; simp
        have hqb : q ≤ 1099511627776 := by
          rw [← hq]
          exact Nat.le_trans (Nat.mul_le_mul hn (show 2 * n2 + 21 ≤ 2097173 by omega)) (by decide)
        have hbig : 4194304 < n0 + n3 + n2 + 2 + q := by rw [← hq]; omega
        clear h hq
        go_enter Try.func6, Try.ntmps6
        go_wp2_with (go_at_call 19; refine (zzb_yes _ _ _ _ _ _ _ _ _ _ _ _ _ ht).mono ?_; rintro e w' ⟨rfl, rfl⟩)
        go_ret
        exact ⟨rfl, Below.refl _ _⟩
      · clear h
        go_enter Try.func6, Try.ntmps6
        go_wp2_with (go_at_call 19; refine (zzb_yes _ _ _ _ _ _ _ _ _ _ _ _ _ ht).mono ?_; rintro e w' ⟨rfl, rfl⟩)
        go_ret
        exact ⟨rfl, Below.refl _ _⟩
    · clear h
      go_enter Try.func6, Try.ntmps6
      go_wp2_with (go_at_call 19; refine (zzb_yes _ _ _ _ _ _ _ _ _ _ _ _ _ ht).mono ?_; rintro e w' ⟨rfl, rfl⟩)
      go_ret
      exact ⟨rfl, Below.refl _ _⟩
  · clear h
    go_enter Try.func6, Try.ntmps6
    go_wp2_with (go_at_call 19; refine (zzb_no _ _ _ _ _ _ _ _ _ _ _ _ _ h0 h1 h2 h3 ht).mono ?_; rintro e w' ⟨rfl, rfl⟩)
    go_ret
    exact ⟨rfl, Below.refl _ _⟩
end Go.Proofs.Qxb6602322a
