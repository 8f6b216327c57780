import Derived.Test.Qxb6603216aPlain
namespace Go.Proofs.Qxb6603216a

theorem one_slash {t : Tk} (h : isSlash t = true) (c : UInt8) : one t c = decide (c = 47) := by
  unfold isSlash at h
  simp only [Bool.and_eq_true, beq_iff_eq] at h
  unfold one
  rw [if_pos h.1, h.2]
  by_cases hc : c = 47
  · subst hc; decide
  · have : ¬ (c.toNat : Int) = 47 := by
      intro h2
      apply hc
      have : c.toNat = 47 := by omega
      exact UInt8.toNat_inj.1 this
    simp [hc, this]

/-- A token of one byte that takes a byte other than the slash does not take the slash. -/
theorem one_other {t : Tk} (hk : 0 ≤ t.kind ∧ t.kind ≤ 4) (hs : ¬ (t.kind = 3 ∨ t.kind = 4)) {c : UInt8} (hc : c ≠ 47) (h : one t c = true) : one t 47 = false := by
  unfold one at *
  by_cases h0 : t.kind = 0
  · rw [if_pos h0] at *
    simp only [decide_eq_true_eq] at h
    simp only [decide_eq_false_iff_not]
    intro h2
    apply hc
    have : c.toNat = (47 : UInt8).toNat := by omega
    exact UInt8.toNat_inj.1 this
  · rw [if_neg h0] at *
    by_cases h1 : t.kind = 1
    · rw [if_pos h1]; decide
    · rw [if_neg h1] at *
      rw [if_pos (by omega)]
      simp

theorem oneM_cons (t : Tk) (f : List UInt8 → Bool) (c : UInt8) (n : List UInt8) : oneM t f (c :: n) = (f n && one t c) := rfl

theorem M_one {t : Tk} (r : List Tk) (n : List UInt8) (h : ¬ (t.kind = 3 ∨ t.kind = 4)) : M (t :: r) n = oneM t (M r) n := by
  rw [M_cons, rowM, if_neg (by omega), if_neg (by omega)]
theorem M_star {t : Tk} (r : List Tk) (n : List UInt8) (h : t.kind = 3) : M (t :: r) n = starM (M r) n := by
  rw [M_cons, rowM, if_pos h]
theorem M_dbl {t : Tk} (r : List Tk) (n : List UInt8) (h : t.kind = 4) : M (t :: r) n = (anyM (M r) n || (headSlash r && (tabM r).2 n)) := by
  rw [M_cons, rowM, if_neg (by omega), if_pos h]

theorem slash_kind {t : Tk} (h : isSlash t = true) : t.kind = 0 := by
  unfold isSlash at h
  simp only [Bool.and_eq_true, beq_iff_eq] at h
  exact h.1

theorem drop_next {n : List UInt8} {d : Nat} {x : UInt8} {m : List UInt8} (h : n.drop d = x :: m) : n.drop (d + 1) = m := by
  rw [← List.drop_drop, h]; rfl

/-- One byte, then the rest. -/
theorem sound_one {t : Tk} {r : List Tk} (hk : 0 ≤ t.kind ∧ t.kind ≤ 4) (hs : ¬ (t.kind = 3 ∨ t.kind = 4)) (hr : Sh (isSlash t) r)
    (ih : ∀ n, Sound r n (O r n)) (n : List UInt8) : Sound (t :: r) n (O (t :: r) n) := by
  have hnd : notDbl (t :: r) := by unfold notDbl; omega
  rw [O_one r n hs]
  cases n with
  | nil =>
    refine ⟨.inr (.inr (.inl rfl)), ?_, fun _ _ d => ?_, fun _ t' r' h h4 => ?_, fun h => ?_⟩
    · rw [M_one r _ hs]; simp [oneO, oneM]
    · rw [List.drop_nil, M_one r _ hs]; rfl
    · cases h; exact absurd h4 (by omega)
    · simp [oneO] at h
  | cons c n =>
    simp only [oneO]
    by_cases h1 : one t c = true
    · rw [if_pos h1]
      obtain ⟨i0, i1, i2, i3, i4⟩ := ih n
      have hM : M (t :: r) (c :: n) = M r n := by rw [M_one r _ hs, oneM_cons, h1, Bool.and_true]
      refine ⟨i0, by rw [hM]; exact i1, fun h2 _ d => ?_, fun _ t' r' h h4 => ?_, fun h3 => ⟨hnd, ?_⟩⟩
      · rw [M_one r _ hs]
        cases hd : (c :: n).drop d with
        | nil => rfl
        | cons x m =>
          have hm : n.drop d = m := by
            have := drop_next hd
            simpa using this
          rw [oneM_cons]
          by_cases hox : one t x = true
          · rw [hox, Bool.and_true]
            cases r with
            | nil => rw [← hm]; exact i2 h2 trivial d
            | cons t2 r2 =>
              by_cases h4 : t2.kind = 4
              · obtain ⟨hk2, hd2, hr2⟩ := hr
                obtain ⟨hsl, hrs⟩ := hd2 h4
                have hall := i3 h2 t2 r2 rfl h4
                have hMn : M (t2 :: r2) n = false := by
                  cases hx : M (t2 :: r2) n with
                  | false => rfl
                  | true => have := i1.2 hx; omega
                rw [M_dbl r2 _ h4]
                have ha : anyM (M r2) m = false := by
                  cases hx : anyM (M r2) m with
                  | false => rfl
                  | true =>
                    obtain ⟨e, _, he⟩ := (anyM_iff _ _).1 hx
                    rw [← hm, List.drop_drop, hall] at he
                    cases he
                rw [ha, Bool.false_or]
                cases r2 with
                | nil => rfl
                | cons t3 r3 =>
                  have hs3 : headSlash (t3 :: r3) = true := by
                    rcases hrs with h | h
                    · cases h
                    · exact h
                  rw [hs3, Bool.true_and, tabM2]
                  cases hx : M r3 m with
                  | false => rfl
                  | true =>
                    exfalso
                    cases d with
                    | zero =>
                      simp at hm
                      subst hm
                      rw [M_dbl _ _ h4, hs3, tabM2, hx] at hMn
                      simp at hMn
                    | succ d =>
                      have hx47 : x = 47 := by
                        rw [one_slash hsl] at hox
                        simpa using hox
                      have hd' : n.drop d = x :: m := by simpa using hd
                      have := hall d
                      rw [hd', hx47, M_one r3 _ (by have := slash_kind hs3; omega), oneM_cons, hx, one_slash hs3] at this
                      simp at this
              · rw [← hm]; exact i2 h2 h4 d
          · have : one t x = false := by simpa using hox
            rw [this, Bool.and_false]
      · cases h; exact absurd h4 (by omega)
      · obtain ⟨hndr, u, v, hn, hu, hall⟩ := i4 h3
        have hMc : M (t :: r) (c :: n) = false := by
          rw [hM]
          cases hx : M r n with
          | false => rfl
          | true => have := i1.2 hx; omega
        by_cases hc : c = 47
        · refine ⟨[], n, by rw [hc]; rfl, by simp, fun d hd => ?_⟩
          have : d = 0 := by simpa using hd
          subst this
          simpa using hMc
        · refine ⟨c :: u, v, by rw [hn]; rfl, by simp [hu]; exact fun h => hc h.symm, fun d hd => ?_⟩
          cases d with
          | zero => simpa using hMc
          | succ d =>
            have hd' : d ≤ u.length := by simpa using hd
            rw [List.drop_succ_cons, M_one r _ hs]
            cases hdd : n.drop d with
            | nil => rfl
            | cons x m =>
              rw [oneM_cons]
              by_cases hlt : d + 1 ≤ u.length
              · have := hall (d + 1) hlt
                rw [drop_next hdd] at this
                rw [this, Bool.false_and]
              · have hde : d = u.length := by omega
                rw [hn, hde, List.drop_left] at hdd
                cases hdd
                rw [one_other hk hs hc h1, Bool.and_false]
    · rw [if_neg h1]
      have h1' : one t c = false := by simpa using h1
      refine ⟨.inr (.inl rfl), ?_, fun h => by omega, fun h => by omega, fun h => by omega⟩
      rw [M_one r _ hs, oneM_cons, h1', Bool.and_false]
      simp
end Go.Proofs.Qxb6603216a
