import Derived.Test.Qxb6602322aBody
namespace Go.Proofs.Qxb6602322a
open Go.RowKit

/-- The reader on the array that was written. -/
theorem rb_all (l0 l1 l2 l3 : List Int) (G U n : Nat) (w : World) (hd : ∀ x ∈ l1, 0 ≤ x ∧ x ≤ 18446744073709551615) (hp : ∀ c ∈ l2, isSp c = true)
    (D : List Int) (hD : D = l0 ++ (91 :: (l2 ++ bodyN l2 l1 l1.length)) ++ [93] ++ l3) (hn : n = D.length) (hcap : D.length ≤ U) (hU : U ≤ 4194304) (hb : Bs .u8 w (some ⟨G, 0, none⟩) D) (endz : Int) (hend : endz + l3.length = D.length) :
    Calls Try.prog 18 #[.slice (some ⟨G, 0, none⟩) n U, .int .i64 (l0.length : Int)] w fun e w' => ∃ g c, e = .returned (.tuple #[.slice (some ⟨g, 0, none⟩) l1.length c, .int .i64 endz, .bool true]) ∧ Below w.heap.size w w' ∧ Bs .u64 w' (some ⟨g, 0, none⟩) l1 := by
  subst hn
  have hD2 : D = l0 ++ (91 :: (l2 ++ (bodyN l2 l1 l1.length ++ (93 :: l3)))) := by rw [hD]; simp
  have hdrop : D.drop l0.length = 91 :: (l2 ++ (bodyN l2 l1 l1.length ++ (93 :: l3))) := by rw [hD2, List.drop_left]
  have hlen := congrArg List.length hD2
  simp at hlen
  obtain ⟨b, off, h, hc⟩ := hb.resolve_left (by intro h; rw [h] at hdrop; simp at hdrop)
  cases h
  by_cases h0 : 0 < l1.length
  · rw [body_whole l2 l1 l3 h0] at hdrop
    refine (zzrb_some D G 0 U l0.length l2 l3 (l1.getD 0 0).toNat ((l1.map Int.toNat).drop 1) (by omega) hcap w hc hp ?_ hdrop).mono ?_
    · rw [← vals_cons l1 h0]
      intro v hv
      simp at hv
      obtain ⟨x, hx, rfl⟩ := hv
      have := hd x hx
      omega
    · rintro e w' ⟨V, rfl, hbel, hown, hne⟩
      rw [← vals_cons l1 h0, vals_back l1 (fun x hx => (hd x hx).1)] at hown
      obtain ⟨g, c, rfl, hbs⟩ := own64_shape hown hne
      exact ⟨g, c, ret_tri (by omega), hbel, hbs⟩
  · have h1 : l1 = [] := List.length_eq_zero_iff.1 (by omega)
    subst h1
    simp only [List.length_nil, bodyN, List.nil_append] at hdrop hlen
    refine (zzrb_empty D G 0 U l0.length l2 l3 (by omega) w hc hp hdrop).mono ?_
    rintro e w' ⟨g, c, rfl, hbel⟩
    exact ⟨g, c, ret_tri (by omega), hbel, .inl rfl⟩
end Go.Proofs.Qxb6602322a
