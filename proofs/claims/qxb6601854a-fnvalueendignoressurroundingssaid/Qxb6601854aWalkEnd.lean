import Derived.Test.Qxb6601854aVend
namespace Go.Proofs.Qxb6601854a
open Go.RowKit

theorem lend_any (l : List Int) (a : Option Addr) (cap i : Nat) (hlen : l.length ≤ 1073741824) (hi : i < l.length) (w : World) (hb : Bs w a l) :
    Calls Try.prog 8 #[.slice a l.length cap, .int .i64 (i : Int)] w fun e' w' => ((∃ e, e' = .returned (.int .i64 (e : Nat)) ∧ Ends l i e) ∨ e' = .returned (.int .i64 (-1))) ∧ w = w' := by
  obtain ⟨b, off, rfl, hc⟩ := hb.resolve_left (by rintro rfl; simp at hi)
  cases ho : isOpen (l.getD i 0) with
  | true =>
    refine (lend_lex l b off cap i hlen hi w hc ho).mono ?_
    rintro e' w' ⟨rfl, rfl⟩
    cases he : lexJ (l.drop i) 0 0 i with
    | none => exact ⟨.inr rfl, rfl⟩
    | some e => exact ⟨.inl ⟨e, rfl, hi, .inl ⟨ho, he⟩⟩, rfl⟩
  | false =>
    refine (lend_scan l b off cap i hlen hi w hc ho).mono ?_
    rintro e' w' ⟨rfl, rfl⟩
    exact ⟨.inl ⟨_, rfl, hi, .inr ⟨ho, rfl⟩⟩, rfl⟩

theorem ends_le {l : List Int} {i e : Nat} (h : Ends l i e) : e ≤ l.length := by
  obtain ⟨hi, h⟩ := h
  rcases h with ⟨_, h⟩ | ⟨_, h⟩
  · have := lexJ_le _ _ _ _ _ h; simp at this; omega
  · rw [← h]; exact scanN_le (by omega)

theorem ends_whole {p l m : List Int} {i e : Nat} (h : Ends l i e) (hm : isOpen (l.getD i 0) = true ∨ e ≠ l.length ∨ m = [] ∨ isDelim (m.getD 0 0) = true) : Ends (p ++ (l ++ m)) (p.length + i) (p.length + e) := by
  obtain ⟨hi, h⟩ := h
  refine ⟨by simp; omega, ?_⟩
  rw [getD_whole p l m i hi]
  rcases h with ⟨ho, he⟩ | ⟨ho, he⟩
  · exact .inl ⟨ho, lex_whole p l m i e (by omega) he⟩
  · refine .inr ⟨ho, ?_⟩
    rw [scan_whole p l m i (by omega), he]
    intro hx
    rcases hm with h | h | h | h
    · rw [ho] at h; cases h
    · omega
    · exact .inl h
    · exact .inr h

theorem zzb6_yes (a0 a1 a2 : Option Addr) (n0 c0 n1 c1 n2 c2 : Nat) (x : Int) (w : World) (h : n0 + n1 + n2 ≤ 1048576) :
    Calls Try.prog 6 #[.slice a0 n0 c0, .slice a1 n1 c1, .slice a2 n2 c2, .int .i64 x] w fun e w' => e = .returned (.bool true) ∧ w = w' := by
  go_enter Try.func6, Try.ntmps6
  go_wp2
  go_ret
  exact ⟨rfl, rfl⟩

theorem zzb6_no (a0 a1 a2 : Option Addr) (n0 c0 n1 c1 n2 c2 : Nat) (x : Int) (w : World) (h0 : n0 ≤ maxLen) (h1 : n1 ≤ maxLen) (h2 : n2 ≤ maxLen) (h : ¬ n0 + n1 + n2 ≤ 1048576) :
    Calls Try.prog 6 #[.slice a0 n0 c0, .slice a1 n1 c1, .slice a2 n2 c2, .int .i64 x] w fun e w' => e = .returned (.bool false) ∧ w = w' := by
  unfold maxLen at h0 h1 h2
  go_enter Try.func6, Try.ntmps6
  go_wp2
  all_goals
    go_ret
    exact ⟨rfl, rfl⟩

theorem vei_out (a0 a1 a2 : Option Addr) (n0 c0 n1 c1 n2 c2 : Nat) (x : Int) (w : World) (h0 : n0 ≤ maxLen) (h1 : n1 ≤ maxLen) (h2 : n2 ≤ maxLen) (h : ¬ (n0 + n1 + n2 ≤ 1048576 ∧ 0 ≤ x ∧ x < n1)) :
    Calls Try.prog 3 #[.slice a0 n0 c0, .slice a1 n1 c1, .slice a2 n2 c2, .int .i64 x] w fun e w' => e = .returned (.bool true) ∧ Below w.heap.size w w' := by
  by_cases ht : n0 + n1 + n2 ≤ 1048576
  · have hx : x < 0 ∨ 0 ≤ x ∧ (n1 : Int) ≤ x := by omega
    clear h
    rcases hx with hx | ⟨hx, hx'⟩
    all_goals
      go_enter Try.func3, Try.ntmps3
      go_wp2_with (go_at_call 6; refine (zzb6_yes _ _ _ _ _ _ _ _ _ _ _ ht).mono ?_; rintro e w' ⟨rfl, rfl⟩)
      go_ret
      exact ⟨rfl, Below.refl _ _⟩
  · go_enter Try.func3, Try.ntmps3
    go_wp2_with (go_at_call 6; refine (zzb6_no _ _ _ _ _ _ _ _ _ _ _ h0 h1 h2 ht).mono ?_; rintro e w' ⟨rfl, rfl⟩)
    go_ret
    exact ⟨rfl, Below.refl _ _⟩

set_option maxHeartbeats 4000000 in
theorem vei_in (l0 l1 l2 : List Int) (a0 a1 a2 : Option Addr) (c0 c1 c2 : Nat) (i : Nat) (w : World) (ht : l0.length + l1.length + l2.length ≤ 1048576) (hi : i < l1.length)
    (d0 : ∀ x ∈ l0, 0 ≤ x ∧ x ≤ 255) (d1 : ∀ x ∈ l1, 0 ≤ x ∧ x ≤ 255) (d2 : ∀ x ∈ l2, 0 ≤ x ∧ x ≤ 255)
    (b0 : Bs w a0 l0) (b1 : Bs w a1 l1) (b2 : Bs w a2 l2) (e0 : a0 = none → l0 = []) (e1 : a1 = none → l1 = []) (e2 : a2 = none → l2 = []) :
    Calls Try.prog 3 #[.slice a0 l0.length c0, .slice a1 l1.length c1, .slice a2 l2.length c2, .int .i64 (i : Int)] w fun e w' => e = .returned (.bool true) ∧ Below w.heap.size w w' := by
  have D : Hid ((∀ x ∈ l0, 0 ≤ x ∧ x ≤ 255) ∧ (∀ x ∈ l1, 0 ≤ x ∧ x ≤ 255) ∧ (∀ x ∈ l2, 0 ≤ x ∧ x ≤ 255)) := ⟨d0, d1, d2⟩
  have E : Hid ((a0 = none → l0 = []) ∧ (a1 = none → l1 = []) ∧ (a2 = none → l2 = [])) := ⟨e0, e1, e2⟩
  clear d0 d1 d2 e0 e1 e2
  have hil : (i : Int) < (l1.length : Int) := by omega
  have hmk : ∀ w, (Instr.makeSlice 22 (.int .i64 ((l0.length : Int) + l1.length + l2.length)) (.int .i64 ((l0.length : Int) + l1.length + l2.length))).run Try.prog w = .ok (.slice (some ⟨w.heap.size, 0, none⟩) (l0.length + l1.length + l2.length) (l0.length + l1.length + l2.length)) (w.alloc (.cells (madeCells #[.int .u8 0] (l0.length + l1.length + l2.length)) 5)) := by
    intro w
    have := run_make_row' (P := Try.prog) 22 5 (.int .u8 0) 1 Try.underlying22 info5 rfl .i64 .i64 (l0.length + l1.length + l2.length) (by omega) (by omega) w
    rwa [show ((l0.length + l1.length + l2.length : Nat) : Int) = (l0.length : Int) + l1.length + l2.length from by omega] at this
  go_enter Try.func3, Try.ntmps3
  go_wp2_with (go_at_call 6; refine (zzb6_yes _ _ _ _ _ _ _ _ _ _ _ ht).mono ?_; rintro e w' ⟨rfl, rfl⟩)
  refine (clone_any l0 _ _ (by omega) _ b0 E.out.1).mono ?_
  rintro e w1 ⟨a0', c0', rfl, b0', bel1⟩
  go_wp2_with fail
  have b1' := b1.below (Nat.le_refl _) bel1
  have b2' := b2.below (Nat.le_refl _) bel1
  refine (clone_any l1 _ _ (by omega) _ b1' E.out.2.1).mono ?_
  rintro e w2 ⟨a1', c1', rfl, b1'', bel2⟩
  go_wp2_with fail
  have b0'' := b0'.below (Nat.le_refl _) bel2
  have b2'' := b2'.below (Nat.le_refl _) bel2
  refine (clone_any l2 _ _ (by omega) _ b2'' E.out.2.2).mono ?_
  rintro e w3 ⟨a2', c2', rfl, b2c, bel3⟩
  have b0c := b0''.below (Nat.le_refl _) bel3
  have b1c := b1''.below (Nat.le_refl _) bel3
  have bel : Below w.heap.size w w3 := (bel1.trans (bel2.mono bel1.size)).trans (bel3.mono (Nat.le_trans bel1.size bel2.size))
  clear b0 b1 b2 b0' b1' b2' b0'' b1'' b2'' bel1 bel2 bel3
  obtain ⟨b, off, rfl, hc⟩ := b1c.resolve_left (by rintro rfl; simp at hi)
  have hcell := hc i hi
  obtain ⟨c, hcc⟩ : ∃ c, c = l1.getD i 0 := ⟨_, rfl⟩
  rw [← hcc] at hcell
  have HC : Hid (c = l1.getD i 0) := hcc
  clear hcc hc
  go_wp2_with fail
  refine (lend_any l1 _ _ i (by omega) hi _ b1c).mono ?_
  rintro e' w4 ⟨he', rfl⟩
  rcases he' with ⟨e, rfl, hE⟩ | rfl
  case inr =>
    go_wp2_with fail
    go_ret
    exact ⟨rfl, bel⟩
  have hel := ends_le hE
  have HEnd : Hid (Ends l1 i e) := hE
  clear hE
  have hways : (isOpen c = true ∧ Hid (Ends (l0 ++ (l1 ++ l2)) (l0.length + i) (l0.length + e))) ∨
      (isOpen c = false ∧ ((e : Int) == (l1.length : Int)) = false ∧ Hid (Ends (l0 ++ (l1 ++ l2)) (l0.length + i) (l0.length + e))) ∨
      (isOpen c = false ∧ ((e : Int) == (l1.length : Int)) = true ∧ l2.length ≤ 0 ∧ Hid (Ends (l0 ++ (l1 ++ l2)) (l0.length + i) (l0.length + e))) ∨
      (isOpen c = false ∧ ((e : Int) == (l1.length : Int)) = true ∧ 0 < l2.length ∧ ∃ c2, isDelim c2 = true ∧ Hid (c2 = l2.getD 0 0) ∧ Hid (Ends (l0 ++ (l1 ++ l2)) (l0.length + i) (l0.length + e))) ∨
      (isOpen c = false ∧ ((e : Int) == (l1.length : Int)) = true ∧ 0 < l2.length ∧ ∃ c2, isDelim c2 = false ∧ Hid (c2 = l2.getD 0 0)) := by
    cases ho : isOpen c with
    | true => exact .inl ⟨rfl, ends_whole HEnd.out (.inl (HC.out ▸ ho))⟩
    | false =>
      refine .inr ?_
      by_cases h : e = l1.length
      · have hb : ((e : Int) == (l1.length : Int)) = true := beq_iff_eq.2 (by omega)
        refine .inr ?_
        by_cases h2 : 0 < l2.length
        · refine .inr ?_
          cases hd : isDelim (l2.getD 0 0) with
          | true => exact .inl ⟨rfl, hb, h2, _, hd, rfl, ends_whole HEnd.out (.inr (.inr (.inr hd)))⟩
          | false => exact .inr ⟨rfl, hb, h2, _, hd, rfl⟩
        · exact .inl ⟨rfl, hb, by omega, ends_whole HEnd.out (.inr (.inr (.inl (List.length_eq_zero_iff.1 (by omega)))))⟩
      · exact .inl ⟨rfl, beq_eq_false_iff_ne.2 (by omega), ends_whole HEnd.out (.inr (.inl h))⟩
  have hcell2 : 0 < l2.length → ∃ b2 off2, a2' = some ⟨b2, off2, none⟩ ∧ w3.cell? ⟨b2, off2, none⟩ = some (.int .u8 (l2.getD 0 0)) := by
    intro h
    obtain ⟨b2, off2, ha, hc2⟩ := b2c.resolve_left (by rintro rfl; simp at h)
    exact ⟨b2, off2, ha, by simpa using hc2 0 h⟩
  rcases hways with ⟨ho, HW⟩ | ⟨ho, hne, HW⟩ | ⟨ho, heq, hl2, HW⟩ | ⟨ho, heq, hl2, x2, hd, HX2, HW⟩ | ⟨ho, heq, hl2, x2, hd, HX2⟩
  case inr.inr.inr.inr =>
    obtain ⟨b2, off2, rfl, hc2⟩ := hcell2 hl2
    rw [← HX2.out] at hc2
    have hl2z : (0 : Int) < (l2.length : Int) := by omega
    go_wp2_with (first | (go_at_call 9; refine (isopen_any _ _).mono ?_; rintro e w' ⟨rfl, rfl⟩) | (go_at_call 10; refine (isdelim_any _ _).mono ?_; rintro e w' ⟨rfl, rfl⟩))
    go_ret
    exact ⟨rfl, bel⟩
  case' inr.inr.inr.inl =>
    obtain ⟨b2, off2, rfl, hc2⟩ := hcell2 hl2
    rw [← HX2.out] at hc2
    have hl2z : (0 : Int) < (l2.length : Int) := by omega
  all_goals
    clear hcell2
    go_wp2_with (first | (go_at_call 9; refine (isopen_any _ _).mono ?_; rintro e w' ⟨rfl, rfl⟩) | (go_at_call 10; refine (isdelim_any _ _).mono ?_; rintro e w' ⟨rfl, rfl⟩))
    have belA : ∀ o, Below w3.heap.size w3 (w3.alloc o) := fun o => (Below.refl _ _).alloc (Nat.le_refl _) o
    have r0 : ∀ N, (w3.alloc (.cells (madeCells #[.int .u8 0] N) 5)).rowIs w3.heap.size 5 N (fun _ => .int .u8 0) := fun N => World.rowIs_made w3 (.int .u8 0) N 5
    refine (put_z l0 _ _ _ 0 _ 0 rfl _ _ w3 (by omega) (by omega) b0c (Nat.le_refl _) (belA _) (r0 _) (fun _ => ⟨_, rfl⟩)).mono ?_
    rintro e w5 ⟨rfl, bel5, row5⟩
    have belB := (belA _).trans bel5
    clear r0 bel5 hmk
    go_wp2_with fail
    refine (put_z l1 _ _ _ l0.length _ _ (by omega) _ _ w3 (by omega) (by omega) b1c (Nat.le_refl _) belB row5 ?_).mono ?_
    · intro i; split <;> exact ⟨_, rfl⟩
    rintro e w6 ⟨rfl, bel6, row6⟩
    have belC := belB.trans bel6
    clear bel6 row5 belB
    go_wp2_with fail
    refine (put_z l2 _ _ _ (l0.length + l1.length) _ _ (by omega) _ _ w3 (by omega) (by omega) b2c (Nat.le_refl _) belC row6 ?_).mono ?_
    · intro i; split <;> first | exact ⟨_, rfl⟩ | (split <;> exact ⟨_, rfl⟩)
    rintro e w7 ⟨rfl, bel7, row7⟩
    have belD := belC.trans bel7
    have bw := whole_row l0 l1 l2 row7
    have hwl : (l0 ++ (l1 ++ l2)).length = l0.length + l1.length + l2.length := by simp; omega
    have HWL : Hid ((l0 ++ (l1 ++ l2)).length = l0.length + l1.length + l2.length) := hwl
    clear bel7 row6 row7 belC hwl
    go_wp2_with fail
    refine (zzve_any l1 D.out.2.1 _ _ i e (by omega) _ (b1c.below (Nat.le_refl _) belD) HEnd.out _ rfl _ rfl _ rfl).mono ?_
    rintro e8 w8 ⟨rfl, m, rfl⟩
    go_wp2_with fail
    refine (zzve_any (l0 ++ (l1 ++ l2)) ?_ _ _ (l0.length + i) (l0.length + e) (by rw [HWL.out]; omega) _ (bw.drewN m) HW.out _ HWL.out.symm _ (by omega) ((l0.length : Int) + (e : Int)) (by omega)).mono ?_
    · intro x hx
      simp only [List.mem_append] at hx
      rcases hx with hx | hx | hx
      · exact D.out.1 x hx
      · exact D.out.2.1 x hx
      · exact D.out.2.2 x hx
    rintro e9 w9 ⟨rfl, m2, rfl⟩
    go_wp2_with fail
    go_ret
    exact ⟨by simp, below_drewN (bel.trans (belD.mono bel.size)) _⟩
end Go.Proofs.Qxb6601854a
