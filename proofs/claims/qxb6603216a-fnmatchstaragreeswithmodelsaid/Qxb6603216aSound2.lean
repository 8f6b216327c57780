import Derived.Test.Qxb6603216aSound
namespace Go.Proofs.Qxb6603216a

theorem M_false {r : List Tk} {n : List UInt8} {o : Int} (h : o = 0 ↔ M r n = true) (h0 : o ≠ 0) : M r n = false := by
  cases hx : M r n with
  | false => rfl
  | true => exact absurd (h.2 hx) h0

/-- The loop of a star that stays between slashes. -/
theorem loop_star {r : List Tk} (hnd : notDbl r) (ih : ∀ n, Sound r n (O r n)) (n : List UInt8) :
    (loopO false (O r) n = 0 ∨ loopO false (O r) n = 2 ∨ loopO false (O r) n = 3) ∧ (loopO false (O r) n = 0 ↔ starM (M r) n = true) ∧
    (loopO false (O r) n = 2 → ∀ d, M r (n.drop d) = false) ∧
    (loopO false (O r) n = 3 → ∃ u v, n = u ++ 47 :: v ∧ ¬ (47 : UInt8) ∈ u ∧ ∀ d, d ≤ u.length → M r (n.drop d) = false) := by
  induction n with
  | nil =>
    obtain ⟨i0, i1, i2, i3, i4⟩ := ih []
    simp only [loopO, starM]
    by_cases h0 : O r [] = 0
    · rw [if_pos h0]
      exact ⟨.inl rfl, by rw [← i1]; simp [h0], fun h => by omega, fun h => by omega⟩
    · rw [if_neg h0]
      have hM := M_false i1 h0
      by_cases h2 : O r [] = 2
      · rw [if_pos h2]
        exact ⟨.inr (.inl rfl), by rw [hM]; simp, fun _ => i2 h2 hnd, fun h => by omega⟩
      · rw [if_neg h2]
        by_cases h3 : O r [] = 3
        · obtain ⟨_, u, v, hn, _⟩ := i4 h3
          simp at hn
        · rw [if_neg (by simp [h3])]
          exact ⟨.inr (.inl rfl), by rw [hM]; simp, fun _ d => by rw [List.drop_nil]; exact hM, fun h => by omega⟩
  | cons c n ihn =>
    obtain ⟨i0, i1, i2, i3, i4⟩ := ih (c :: n)
    simp only [loopO, starM]
    by_cases h0 : O r (c :: n) = 0
    · rw [if_pos h0]
      have := i1.1 h0
      exact ⟨.inl rfl, by simp [this], fun h => by omega, fun h => by omega⟩
    · rw [if_neg h0]
      have hM := M_false i1 h0
      by_cases h2 : O r (c :: n) = 2
      · rw [if_pos h2]
        refine ⟨.inr (.inl rfl), ?_, fun _ => i2 h2 hnd, fun h => by omega⟩
        have hst : starM (M r) n = false := by
          cases hx : starM (M r) n with
          | false => rfl
          | true =>
            obtain ⟨d, _, _, hd⟩ := (starM_iff _ _).1 hx
            have := i2 h2 hnd (d + 1)
            rw [List.drop_succ_cons, hd] at this
            cases this
        rw [hM, hst]; simp
      · rw [if_neg h2]
        by_cases h3 : O r (c :: n) = 3
        · rw [if_pos ⟨h3, trivial⟩]
          obtain ⟨_, u, v, hn, hu, hall⟩ := i4 h3
          refine ⟨.inr (.inr rfl), ?_, fun h => by omega, fun _ => ⟨u, v, hn, hu, hall⟩⟩
          have hst : starM (M r) (c :: n) = false := by
            cases hx : starM (M r) (c :: n) with
            | false => rfl
            | true =>
              obtain ⟨d, hdl, hs, hd⟩ := (starM_iff _ _).1 hx
              by_cases hdu : d ≤ u.length
              · rw [hall d hdu] at hd; cases hd
              · exfalso
                have hm : (47 : UInt8) ∈ (c :: n).take d := by
                  rw [hn, List.take_append]
                  obtain ⟨e, he⟩ : ∃ e, d - u.length = e + 1 := ⟨d - u.length - 1, by omega⟩
                  rw [he]
                  simp
                exact hs 47 hm rfl
          simp only [starM] at hst
          rw [hst]; simp
        · rw [if_neg (by simp [h3])]
          by_cases hc : c = 47
          · rw [if_pos ⟨hc, trivial⟩]
            refine ⟨.inr (.inr rfl), ?_, fun h => by omega, fun _ => ⟨[], n, by rw [hc]; rfl, by simp, fun d hd => ?_⟩⟩
            · rw [hM]; simp [hc]
            · have : d = 0 := by simpa using hd
              subst this
              simpa using hM
          · rw [if_neg (by simp [hc])]
            obtain ⟨j0, j1, j2, j3⟩ := ihn
            refine ⟨j0, ?_, fun h d => ?_, fun h => ?_⟩
            · rw [j1, hM]; simp [hc]
            · cases d with
              | zero => simpa using hM
              | succ d => rw [List.drop_succ_cons]; exact j2 h d
            · obtain ⟨u, v, hn, hu, hall⟩ := j3 h
              refine ⟨c :: u, v, by rw [hn]; rfl, by simp [hu]; exact fun h => hc h.symm, fun d hd => ?_⟩
              cases d with
              | zero => simpa using hM
              | succ d => rw [List.drop_succ_cons]; exact hall d (by simpa using hd)

/-- The loop of a star that crosses slashes. -/
theorem loop_dbl {r : List Tk} (hnd : notDbl r) (ih : ∀ n, Sound r n (O r n)) (n : List UInt8) :
    (loopO true (O r) n = 0 ∨ loopO true (O r) n = 2) ∧ (loopO true (O r) n = 0 ↔ anyM (M r) n = true) ∧
    (loopO true (O r) n = 2 → ∀ d, M r (n.drop d) = false) := by
  induction n with
  | nil =>
    obtain ⟨i0, i1, i2, i3, i4⟩ := ih []
    simp only [loopO, anyM]
    by_cases h0 : O r [] = 0
    · rw [if_pos h0]
      exact ⟨.inl rfl, by rw [← i1]; simp [h0], fun h => by omega⟩
    · rw [if_neg h0]
      have hM := M_false i1 h0
      have e : (if O r [] = 2 then (2 : Int) else if O r [] = 3 ∧ true = false then 3 else 2) = 2 := by
        by_cases h2 : O r [] = 2 <;> simp [h2]
      rw [e]
      exact ⟨.inr rfl, by rw [hM]; simp, fun _ d => by rw [List.drop_nil]; exact hM⟩
  | cons c n ihn =>
    obtain ⟨i0, i1, i2, i3, i4⟩ := ih (c :: n)
    simp only [loopO, anyM]
    by_cases h0 : O r (c :: n) = 0
    · rw [if_pos h0]
      have := i1.1 h0
      exact ⟨.inl rfl, by simp [this], fun h => by omega⟩
    · rw [if_neg h0]
      have hM := M_false i1 h0
      by_cases h2 : O r (c :: n) = 2
      · rw [if_pos h2]
        refine ⟨.inr rfl, ?_, fun _ => i2 h2 hnd⟩
        have hst : anyM (M r) n = false := by
          cases hx : anyM (M r) n with
          | false => rfl
          | true =>
            obtain ⟨d, _, hd⟩ := (anyM_iff _ _).1 hx
            have := i2 h2 hnd (d + 1)
            rw [List.drop_succ_cons, hd] at this
            cases this
        rw [hM, hst]; simp
      · rw [if_neg h2, if_neg (by simp), if_neg (by simp)]
        obtain ⟨j0, j1, j2⟩ := ihn
        refine ⟨j0, by rw [j1, hM]; simp, fun h d => ?_⟩
        cases d with
        | zero => simpa using hM
        | succ d => rw [List.drop_succ_cons]; exact j2 h d

theorem sh_notDbl {r : List Tk} (h : Sh false r) : notDbl r := by
  cases r with
  | nil => trivial
  | cons t r =>
    intro h4
    have := (h.2.1 h4).1
    cases this

theorem star_all (n : List UInt8) : starM (M []) n = true ↔ ¬ (47 : UInt8) ∈ n := by
  rw [starM_iff]
  constructor
  · rintro ⟨d, hd, hs, h⟩
    rw [M_nil] at h
    have : n.length ≤ d := by simpa using h
    rw [List.take_of_length_le this] at hs
    intro hm
    exact hs 47 hm rfl
  · intro h
    refine ⟨n.length, Nat.le_refl _, fun c hc => ?_, by simp [M_nil]⟩
    rw [List.take_length] at hc
    intro h47
    subst h47
    exact h hc

theorem any_all (n : List UInt8) : anyM (M []) n = true := by
  rw [anyM_iff]
  exact ⟨n.length, Nat.le_refl _, by simp [M_nil]⟩

theorem sound_star {t : Tk} {r : List Tk} (hk : t.kind = 3) (hr : Sh (isSlash t) r) (ih : ∀ n, Sound r n (O r n)) (n : List UInt8) : Sound (t :: r) n (O (t :: r) n) := by
  have hns : isSlash t = false := by unfold isSlash; simp [hk]
  rw [hns] at hr
  have hnd := sh_notDbl hr
  have e4 : (t.kind == 4) = false := by rw [hk]; decide
  rw [O_star r n (.inl hk), e4, starO]
  by_cases hr0 : r = []
  · subst hr0
    rw [if_pos rfl]
    by_cases hm : (47 : UInt8) ∈ n
    · rw [if_neg (by simp [hm])]
      refine ⟨.inr (.inl rfl), ?_, fun h => by omega, fun h => by omega, fun h => by omega⟩
      rw [M_star _ _ hk, star_all]
      simp [hm]
    · rw [if_pos (.inr hm)]
      refine ⟨.inl rfl, ?_, fun h => by omega, fun h => by omega, fun h => by omega⟩
      rw [M_star _ _ hk, star_all]
      simp [hm]
  · rw [if_neg hr0, if_neg (by simp)]
    obtain ⟨j0, j1, j2, j3⟩ := loop_star hnd ih n
    refine ⟨by omega, by rw [M_star _ _ hk]; exact j1, fun h _ d => ?_, fun _ t' r' h h4 => ?_, fun h => ⟨by unfold notDbl; omega, ?_⟩⟩
    · rw [M_star _ _ hk]
      cases hx : starM (M r) (n.drop d) with
      | false => rfl
      | true =>
        obtain ⟨e, _, _, he⟩ := (starM_iff _ _).1 hx
        rw [List.drop_drop, j2 h] at he
        cases he
    · cases h; omega
    · obtain ⟨u, v, hn, hu, hall⟩ := j3 h
      refine ⟨u, v, hn, hu, fun d hd => ?_⟩
      rw [M_star _ _ hk]
      cases hx : starM (M r) (n.drop d) with
      | false => rfl
      | true =>
        exfalso
        obtain ⟨e, _, hs, he⟩ := (starM_iff _ _).1 hx
        rw [List.drop_drop] at he
        by_cases hde : d + e ≤ u.length
        · rw [hall _ hde] at he; cases he
        · have hm : (47 : UInt8) ∈ (n.drop d).take e := by
            rw [hn, List.drop_append_of_le_length hd, List.take_append]
            obtain ⟨k, hk'⟩ : ∃ k, e - (u.drop d).length = k + 1 := ⟨e - (u.drop d).length - 1, by simp; omega⟩
            rw [hk']
            simp
          exact hs 47 hm rfl

theorem sound_dbl {t : Tk} {r : List Tk} (hk : t.kind = 4) (hsh : r = [] ∨ headSlash r = true) (ih : ∀ n, Sound r n (O r n)) (ih2 : ∀ s r', r = s :: r' → ∀ n, Sound r' n (O r' n)) (n : List UInt8) : Sound (t :: r) n (O (t :: r) n) := by
  have e4 : (t.kind == 4) = true := by rw [hk]; decide
  rw [O_star r n (.inr hk), e4, starO]
  by_cases hr0 : r = []
  · subst hr0
    rw [if_pos rfl, if_pos (.inl rfl)]
    refine ⟨.inl rfl, ?_, fun h => by omega, fun h => by omega, fun h => by omega⟩
    rw [M_dbl _ _ hk, any_all]
    simp
  · have hs : headSlash r = true := hsh.resolve_left hr0
    rw [if_neg hr0]
    cases r with
    | nil => exact absurd rfl hr0
    | cons s r' =>
      have hnd : notDbl (s :: r') := by unfold notDbl; have := slash_kind hs; omega
      obtain ⟨_, q1, _⟩ := ih2 s r' rfl n
      rw [tabO2]
      by_cases hg : O r' n = 0
      · rw [if_pos ⟨rfl, hs, hg⟩]
        refine ⟨.inl rfl, ?_, fun h => by omega, fun h => by omega, fun h => by omega⟩
        rw [M_dbl _ _ hk, hs, tabM2, q1.1 hg]
        simp
      · rw [if_neg (fun h => hg h.2.2)]
        obtain ⟨j0, j1, j2⟩ := loop_dbl hnd ih n
        have hMf := M_false q1 hg
        refine ⟨by omega, ?_, fun _ h => absurd hk h, fun h t' r'' he h4 d => ?_, fun h => by omega⟩
        · rw [M_dbl _ _ hk, tabM2, hMf, Bool.and_false, Bool.or_false]; exact j1
        · cases he; exact j2 h d

theorem sound (ts : List Tk) : ∀ p, Sh p ts → (∀ n, Sound ts n (O ts n)) ∧ ∀ s r', ts = s :: r' → ∀ n, Sound r' n (O r' n) := by
  induction ts with
  | nil =>
    intro p _
    refine ⟨fun n => ?_, fun s r' h => by cases h⟩
    rw [O_nil]
    by_cases hn : n = []
    · subst hn
      exact ⟨.inl rfl, by simp [M_nil], fun h => by simp at h, fun h => by simp at h, fun h => by simp at h⟩
    · rw [if_neg hn]
      exact ⟨.inr (.inl rfl), by simp [M_nil, hn], fun h => by omega, fun h => by omega, fun h => by omega⟩
  | cons t r ih =>
    intro p hp
    obtain ⟨hk, hd, hr⟩ := hp
    obtain ⟨ih1, ih2⟩ := ih _ hr
    refine ⟨fun n => ?_, fun s r' h => by cases h; exact ih1⟩
    by_cases h3 : t.kind = 3
    · exact sound_star h3 hr ih1 n
    · by_cases h4 : t.kind = 4
      · exact sound_dbl h4 (hd h4).2 ih1 ih2 n
      · exact sound_one hk (by omega) hr ih1 n

/-! ### The rest of the two laws -/
def SF : List Tk → List UInt8 → Int
  | [], n => if n = [] then 0 else 1
  | _ :: _, [] => 2
  | t :: r, c :: n => if one t c = true then SF r n else 1

theorem O_free (ts : List Tk) (h : ∀ t ∈ ts, ¬ (t.kind = 3 ∨ t.kind = 4)) : ∀ n, O ts n = SF ts n := by
  induction ts with
  | nil => intro n; rfl
  | cons t r ih =>
    intro n
    rw [O_one r n (h t (by simp))]
    cases n with
    | nil => rfl
    | cons c n => simp only [oneO, SF]; rw [ih (fun t ht => h t (by simp [ht]))]

theorem loop_not3 (f : List UInt8 → Int) (n : List UInt8) : loopO true f n ≠ 3 := by
  induction n with
  | nil => simp only [loopO]; (repeat' split) <;> simp_all
  | cons c n ih => simp only [loopO]; (repeat' split) <;> simp_all

theorem O_three (ts : List Tk) : ∀ n, O ts n = 3 → ∃ t ∈ ts, t.kind = 3 := by
  induction ts with
  | nil => intro n h; rw [O_nil] at h; split at h <;> omega
  | cons t r ih =>
    intro n h
    by_cases h3 : t.kind = 3
    · exact ⟨t, by simp, h3⟩
    · by_cases h4 : t.kind = 4
      · exfalso
        rw [O_star r n (.inr h4), show (t.kind == 4) = true from by rw [h4]; decide, starO] at h
        split at h
        · simp at h
        · split at h
          · omega
          · exact loop_not3 _ _ h
      · rw [O_one r n (by omega)] at h
        cases n with
        | nil => simp [oneO] at h
        | cons c n =>
          simp only [oneO] at h
          split at h
          · obtain ⟨t', h1, h2⟩ := ih n h
            exact ⟨t', by simp [h1], h2⟩
          · omega
end Go.Proofs.Qxb6603216a
