import Derived.Test.Qxb6601854aChr
namespace Go.Proofs.Qxb6601854a
open Go.RowKit

set_option maxHeartbeats 1000000 in
theorem chr_late (l0 : List Int) (a0 : Option Addr) (c0 : Nat) (o : Nat) (w : World) (ht : l0.length ≤ 1048576) (ho : o ≤ 2147483647)
    (d0 : ∀ x ∈ l0, 0 ≤ x ∧ x ≤ 255) (b0 : Bs w a0 l0) (e0 : a0 = none → l0 = []) (hlate : l0.length ≤ o) :
    Calls Try.prog 4 #[.slice a0 l0.length c0, .int .i64 (o : Int)] w fun e w' => e = .returned (.bool true) ∧ Below w.heap.size w w' := by
  have D : Hid (∀ x ∈ l0, 0 ≤ x ∧ x ≤ 255) := d0
  have E : Hid (a0 = none → l0 = []) := e0
  clear d0 e0
  have hv := vstart_end l0 o hlate
  go_enter Try.func4, Try.ntmps4
  go_wp2_with (go_at_call 13; refine (zzb13_yes _ _ _ _ _ ht).mono ?_; rintro e w' ⟨rfl, rfl⟩)
  refine (clone_any l0 _ _ (by omega) _ b0 E.out).mono ?_
  rintro e w1 ⟨a0', c0', rfl, b0', bel1⟩
  go_wp2_with fail
  refine (zzvs_any l0 D.out _ _ (by omega) o (by omega) _ b0').mono ?_
  rintro e w4 ⟨rfl, n, rfl⟩
  go_wp2_with fail
  go_ret
  exact ⟨by simp, below_drewN bel1 _⟩

set_option maxHeartbeats 1000000 in
theorem chr_in (l0 : List Int) (a0 : Option Addr) (c0 : Nat) (o : Nat) (w : World) (ht : l0.length ≤ 1048576) (ho : o ≤ 2147483647)
    (d0 : ∀ x ∈ l0, 0 ≤ x ∧ x ≤ 255) (b0 : Bs w a0 l0) (e0 : a0 = none → l0 = []) (hlate : o < l0.length) :
    Calls Try.prog 4 #[.slice a0 l0.length c0, .int .i64 (o : Int)] w fun e w' => e = .returned (.bool true) ∧ Below w.heap.size w w' := by
  have D : Hid (∀ x ∈ l0, 0 ≤ x ∧ x ≤ 255) := d0
  have E : Hid (a0 = none → l0 = []) := e0
  clear d0 e0
  obtain ⟨s1, h1, h2, h2', h3, h4, h5, h6, h7⟩ := vstart_chr l0 o hlate
  obtain ⟨g, hg⟩ : ∃ g, g = vstart l0 o := ⟨_, rfl⟩
  rw [← hg] at h1 h2 h3 h4 h5 h6 h7
  have H : Hid ((∀ k, o ≤ k → k < g → k ≠ s1 → isSp (l0.getD k 0) = true) ∧ (s1 < g → isSep (l0.getD s1 0) = true) ∧ (g < l0.length → isSp (l0.getD g 0) = false) ∧ (g < l0.length → s1 = g → isSep (l0.getD g 0) = false)) := ⟨h4, h5, h6, h7⟩
  have HG : Hid (g = vstart l0 o) := hg
  clear h4 h5 h6 h7 hg
  have f1 : decide ((1048576 : Int) < (l0.length : Int)) = false := decide_eq_false (by omega)
  have f2 : decide ((o : Int) < 0) = false := decide_eq_false (by omega)
  have f3 : decide ((2147483647 : Int) < (o : Int)) = false := decide_eq_false (by omega)
  have f4 : decide ((l0.length : Int) ≤ (o : Int)) = false := decide_eq_false (by omega)
  have f5 : decide ((g : Int) < (o : Int)) = false := decide_eq_false (by omega)
  have g4 : decide (l0.length ≤ o) = false := decide_eq_false (by omega)
  have g5 : decide (g < o) = false := decide_eq_false (by omega)
  have g6 : decide (l0.length < g) = false := decide_eq_false (by omega)
  have f6 : decide ((l0.length : Int) < (g : Int)) = false := decide_eq_false (by omega)
  go_enter Try.func4, Try.ntmps4
  go_wp2_with (go_at_call 13; refine (zzb13_yes _ _ _ _ _ ht).mono ?_; rintro e w' ⟨rfl, rfl⟩)
  refine (clone_any l0 _ _ (by omega) _ b0 E.out).mono ?_
  rintro e w1 ⟨a0', c0', rfl, b0', bel1⟩
  obtain ⟨b, off, ha, hc⟩ := b0'.resolve_left (by rintro rfl; simp at hlate)
  rw [ha] at b0' ⊢
  have HC : Hid (∀ i, i < l0.length → w1.cell? ⟨b, off + i, none⟩ = some (.int .u8 (l0.getD i 0))) := hc
  clear ha hc
  go_wp2_with fail
  refine (zzvs_any l0 D.out _ _ (by omega) o (by omega) _ b0').mono ?_
  rintro e w4 ⟨rfl, n, rfl⟩
  rw [← HG.out]
  go_wp2_with fail
  go_loopw [7, 8] (fun q j wr => ∃ (k : Nat) (x : Int), o ≤ k ∧ k ≤ g ∧ j = .int .i64 (k : Int) ∧ q = .int .i64 x ∧ 0 ≤ x ∧ x ≤ 1 ∧ Hid (x = if k ≤ s1 then 0 else 1) ∧ wr = w1.drewN n) (fun _ j _ => g - (intOf j).toNat)
  case atStart => exact ⟨o, 0, by omega, by omega, rfl, rfl, by omega, by omega, by show _ = _; rw [if_pos h2'], rfl⟩
  case round =>
    obtain ⟨k, x, hk1, hk2, rfl, rfl, hx0, hx1, HX, rfl⟩ := hrel
    by_cases hlt : k < g
    · obtain ⟨c, hcc⟩ : ∃ c, c = l0.getD k 0 := ⟨_, rfl⟩
      have hcell := HC.out k (by omega)
      rw [← hcc] at hcell
      have HCC : Hid (c = l0.getD k 0) := hcc
      clear hcc
      have hkl : (k : Int) < (l0.length : Int) := by omega
      by_cases hks : k = s1
      · have hsep : isSep c = true := by rw [HCC.out, hks]; exact H.out.2.1 (by omega)
        have HK : Hid (k = s1) := hks
        clear hks
        go_wp2_with (go_at_call 15; refine (issep_any _ _).mono ?_; rintro e w' ⟨rfl, rfl⟩)
        go_roundw
        case rel =>
          have e1 := HK.out
          have e2 := HX.out
          rw [if_pos (by omega)] at e2
          exact ⟨k + 1, x + 1, by omega, by omega, by go_num, rfl, by omega, by omega, by show _ = _; rw [if_neg (by omega)]; omega, trivial⟩
        case measure => simp [intOf]; omega
      · have hsp : isSp c = true := by rw [HCC.out]; exact H.out.1 k hk1 hlt hks
        have hsep : isSep c = false := sep_not_sp hsp
        have HK : Hid (k ≠ s1) := hks
        clear hks
        go_wp2_with (first | (go_at_call 15; refine (issep_any _ _).mono ?_; rintro e w' ⟨rfl, rfl⟩) | (go_at_call 16; refine (isspace_any _ _).mono ?_; rintro e w' ⟨rfl, rfl⟩))
        go_roundw
        case rel =>
          have e1 : k ≠ s1 := HK.out
          have e2 := HX.out
          refine ⟨k + 1, x, by omega, by omega, by go_num, rfl, by omega, by omega, ?_, trivial⟩
          show x = _
          rw [e2]
          by_cases h : k ≤ s1
          · rw [if_pos h, if_pos (by omega)]
          · rw [if_neg h, if_neg (by omega)]
        case measure => simp [intOf]; omega
    · obtain rfl : k = g := by omega
      by_cases hgl : k < l0.length
      · obtain ⟨c, hcc⟩ : ∃ c, c = l0.getD k 0 := ⟨_, rfl⟩
        have hcell := HC.out k hgl
        rw [← hcc] at hcell
        have hsp : isSp c = false := by rw [hcc]; exact H.out.2.2.1 hgl
        have hkl : (k : Int) < (l0.length : Int) := by omega
        cases hsep : isSep c with
        | true =>
          have hks : k ≠ s1 := by
            intro h
            have := H.out.2.2.2 hgl h.symm
            rw [← hcc, hsep] at this; cases this
          have hx : (x == 0) = false := by
            have e2 := HX.out
            rw [if_neg (by omega)] at e2
            rw [e2]; decide
          clear hcc hks
          go_wp2_with (first | (go_at_call 15; refine (issep_any _ _).mono ?_; rintro e w' ⟨rfl, rfl⟩) | (go_at_call 16; refine (isspace_any _ _).mono ?_; rintro e w' ⟨rfl, rfl⟩))
          go_ret
          exact ⟨rfl, below_drewN bel1 _⟩
        | false =>
          clear hcc
          go_wp2_with (first | (go_at_call 15; refine (issep_any _ _).mono ?_; rintro e w' ⟨rfl, rfl⟩) | (go_at_call 16; refine (isspace_any _ _).mono ?_; rintro e w' ⟨rfl, rfl⟩))
          go_ret
          exact ⟨rfl, below_drewN bel1 _⟩
      · go_wp2_with fail
        go_ret
        exact ⟨rfl, below_drewN bel1 _⟩
end Go.Proofs.Qxb6601854a
