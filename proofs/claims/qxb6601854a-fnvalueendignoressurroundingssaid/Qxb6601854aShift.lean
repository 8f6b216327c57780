import Derived.Test.Qxb6601854aPlain
namespace Go.Proofs.Qxb6601854a

theorem getD_app_left (l m : List Int) (i : Nat) (h : i < l.length) : (l ++ m).getD i 0 = l.getD i 0 := by
  simp [List.getD, List.getElem?_append_left h]

theorem getD_app_right (l m : List Int) (i : Nat) : (l ++ m).getD (l.length + i) 0 = m.getD i 0 := by
  simp [List.getD, List.getElem?_append_right]

theorem skipN_pre (p l : List Int) (i : Nat) : skipN (p ++ l) (p.length + i) = p.length + skipN l i := by
  unfold skipN
  have e : (p ++ l).drop (p.length + i) = l.drop i := by
    rw [← List.drop_drop, List.drop_left]
  rw [e]; omega

theorem skipN_post (l m : List Int) (i : Nat) (h : skipN l i < l.length) : skipN (l ++ m) i = skipN l i := by
  have hg := skipN_ge l i
  refine skipN_uniq hg (by simp; omega) ?_ ?_
  · intro k h1 h2
    rw [getD_app_left _ _ _ (by omega)]
    exact skipN_all h1 h2
  · intro _
    rw [getD_app_left _ _ _ h]
    exact skipN_stop h

theorem vstart_pre (p l : List Int) (o : Nat) : vstart (p ++ l) (p.length + o) = p.length + vstart l o := by
  unfold vstart
  rw [skipN_pre, getD_app_right, List.length_append]
  by_cases h : skipN l o < l.length ∧ isSep (l.getD (skipN l o) 0) = true
  · rw [if_pos h, if_pos ⟨by omega, h.2⟩, Nat.add_assoc, skipN_pre]
  · rw [if_neg h, if_neg (fun h' => h ⟨by omega, h'.2⟩)]

theorem vstart_post (l m : List Int) (o : Nat) (h : vstart l o < l.length) : vstart (l ++ m) o = vstart l o := by
  unfold vstart at h ⊢
  by_cases hs : skipN l o < l.length ∧ isSep (l.getD (skipN l o) 0) = true
  · rw [if_pos hs] at h
    rw [skipN_post l m o hs.1, getD_app_left _ _ _ hs.1, if_pos hs, if_pos ⟨by simp; omega, hs.2⟩]
    exact skipN_post l m _ h
  · rw [if_neg hs] at h
    rw [skipN_post l m o h, getD_app_left _ _ _ h, if_neg hs, if_neg (fun h' => hs ⟨h, h'.2⟩)]

theorem shift_law (p l m : List Int) (o : Nat) (h : ¬ (l.length ≤ vstart l o ∧ 0 < m.length)) : vstart (p ++ (l ++ m)) (p.length + o) = p.length + vstart l o := by
  rw [vstart_pre]
  by_cases hm : m = []
  · subst hm; simp
  · have hpos : 0 < m.length := List.length_pos_iff.2 hm
    rw [vstart_post l m o (by omega)]

end Go.Proofs.Qxb6601854a
namespace Go.Proofs.Qxb6601854a
theorem vstart_le (l : List Int) (o : Nat) : vstart l o ≤ l.length + o := by
  have h : ∀ i, skipN l i ≤ l.length + i := by
    intro i
    by_cases hi : i ≤ l.length
    · have := skipN_le hi; omega
    · rw [skipN_end (by omega)]; omega
  unfold vstart
  split
  · rename_i hs
    have := skipN_le (l := l) (i := skipN l o + 1) (by omega)
    omega
  · exact h o
end Go.Proofs.Qxb6601854a
