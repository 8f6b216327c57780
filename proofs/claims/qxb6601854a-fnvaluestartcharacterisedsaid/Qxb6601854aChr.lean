import Derived.Test.Qxb6601854aWalkShift
namespace Go.Proofs.Qxb6601854a
open Go.RowKit

theorem sep_not_sp {c : Int} (h : isSp c = true) : isSep c = false := by
  unfold isSp at h; unfold isSep
  simp at h
  rcases h with h | h <;> subst_vars <;> simp_all <;> omega

theorem issep_any (c : Int) (w : World) :
    Calls Try.prog 15 #[.int .u8 c] w fun e w' => e = .returned (.bool (isSep c)) ∧ w = w' := by
  by_cases h1 : c = 58
  · subst h1
    go_enter Try.func15, Try.ntmps15
    go_wp2
    go_ret
    exact ⟨rfl, rfl⟩
  · have g1 : (c == 58) = false := by simpa using h1
    by_cases h2 : c = 44
    · subst h2
      go_enter Try.func15, Try.ntmps15
      go_wp2
      go_ret
      exact ⟨rfl, rfl⟩
    · have g2 : (c == 44) = false := by simpa using h2
      have e : isSep c = false := by simp [isSep, g1, g2]
      rw [e]
      go_enter Try.func15, Try.ntmps15
      go_wp2
      go_ret
      exact ⟨rfl, rfl⟩

theorem isspace_any (c : Int) (w : World) :
    Calls Try.prog 16 #[.int .u8 c] w fun e w' => e = .returned (.bool (isSp c)) ∧ w = w' := by
  rcases (show c = 32 ∨ c = 9 ∨ c = 13 ∨ c = 10 ∨ (¬ c = 32 ∧ ¬ c = 9 ∧ ¬ c = 13 ∧ ¬ c = 10) from by omega) with rfl | rfl | rfl | rfl | ⟨h1, h2, h3, h4⟩
  case inr.inr.inr.inr =>
    have g1 : (c == 32) = false := by simpa using h1
    have g2 : (c == 9) = false := by simpa using h2
    have g3 : (c == 13) = false := by simpa using h3
    have g4 : (c == 10) = false := by simpa using h4
    have e : isSp c = false := by simp [isSp, g1, g2, g3, g4]
    rw [e]
    go_enter Try.func16, Try.ntmps16
    go_wp2
    go_ret
    exact ⟨rfl, rfl⟩
  all_goals
    go_enter Try.func16, Try.ntmps16
    go_wp2
    go_ret
    exact ⟨rfl, rfl⟩

/-- What the answer is: at most one separator among the blanks. -/
theorem vstart_chr (l : List Int) (o : Nat) (ho : o < l.length) : ∃ s1, o ≤ vstart l o ∧ vstart l o ≤ l.length ∧ o ≤ s1 ∧ s1 ≤ vstart l o ∧ (∀ k, o ≤ k → k < vstart l o → k ≠ s1 → isSp (l.getD k 0) = true) ∧
    (s1 < vstart l o → isSep (l.getD s1 0) = true) ∧ (vstart l o < l.length → isSp (l.getD (vstart l o) 0) = false) ∧ (vstart l o < l.length → s1 = vstart l o → isSep (l.getD (vstart l o) 0) = false) := by
  have hge := skipN_ge l o
  have hle := skipN_le (l := l) (i := o) (by omega)
  by_cases hs : skipN l o < l.length ∧ isSep (l.getD (skipN l o) 0) = true
  · have e : vstart l o = skipN l (skipN l o + 1) := by unfold vstart; rw [if_pos hs]
    have hge2 := skipN_ge l (skipN l o + 1)
    have hle2 := skipN_le (l := l) (i := skipN l o + 1) (by omega)
    rw [e]
    refine ⟨skipN l o, by omega, hle2, hge, by omega, ?_, fun _ => hs.2, fun h => skipN_stop h, fun _ h => by omega⟩
    intro k h1 h2 h3
    by_cases hk : k < skipN l o
    · exact skipN_all h1 hk
    · exact skipN_all (i := skipN l o + 1) (by omega) h2
  · have e : vstart l o = skipN l o := by unfold vstart; rw [if_neg hs]
    rw [e]
    refine ⟨skipN l o, by omega, hle, hge, by omega, fun k h1 h2 _ => skipN_all h1 h2, fun h => by omega, fun h => skipN_stop h, ?_⟩
    intro h _
    cases hx : isSep (l.getD (skipN l o) 0) with
    | false => rfl
    | true => exact absurd ⟨h, hx⟩ hs

theorem vstart_end (l : List Int) (o : Nat) (ho : l.length ≤ o) : vstart l o = o := by
  unfold vstart
  rw [skipN_end ho, if_neg (by omega)]

theorem chr_out (a0 : Option Addr) (n0 c0 : Nat) (x : Int) (w : World) (h0 : n0 ≤ maxLen) (h : ¬ (n0 ≤ 1048576 ∧ 0 ≤ x ∧ x ≤ 2147483647)) :
    Calls Try.prog 4 #[.slice a0 n0 c0, .int .i64 x] w fun e w' => e = .returned (.bool true) ∧ Below w.heap.size w w' := by
  unfold maxLen at h0
  by_cases ht : n0 ≤ 1048576
  · have hx : x < 0 ∨ 0 ≤ x ∧ 2147483647 < x := by omega
    clear h
    rcases hx with hx | ⟨hx, hx'⟩
    all_goals
      go_enter Try.func4, Try.ntmps4
      go_wp2
      go_ret
      exact ⟨rfl, Below.refl _ _⟩
  · clear h
    go_enter Try.func4, Try.ntmps4
    go_wp2
    go_ret
    exact ⟨rfl, Below.refl _ _⟩

theorem zzb13_yes (a0 : Option Addr) (n0 c0 : Nat) (x : Int) (w : World) (h : n0 ≤ 1048576) :
    Calls Try.prog 13 #[.slice a0 n0 c0, .int .i64 x] w fun e w' => e = .returned (.bool true) ∧ w = w' := by
  go_enter Try.func13, Try.ntmps13
  go_wp2
  go_ret
  exact ⟨rfl, rfl⟩
end Go.Proofs.Qxb6601854a
