import Derived.Test.Qxb6603216aTable
import Derived.Test.Qxb6603216aStar
namespace Go.Proofs.Qxb6603216a
open Go.RowKit

theorem hasK_false {kd : Int} {ts : List Tk} (h : hasK kd ts = false) : ∀ t ∈ ts, t.kind ≠ kd := by
  induction ts with
  | nil => simp
  | cons t r ih =>
    simp [hasK] at h
    intro x hx
    rcases List.mem_cons.1 hx with rfl | hx
    · exact h.1
    · exact ih h.2 x hx
theorem hasK_true {kd : Int} {ts : List Tk} (h : ∃ t ∈ ts, t.kind = kd) : hasK kd ts = true := by
  cases hx : hasK kd ts with
  | true => rfl
  | false =>
    obtain ⟨t, ht, hk⟩ := h
    exact absurd hk (hasK_false hx t ht)

theorem Mr_00 (ts : List Tk) (s : ByteArray) : Mr ts s 0 0 = M ts s.data.toList := rfl

set_option maxRecDepth 100000 in
set_option maxHeartbeats 8000000 in
theorem main1 (ts : List Tk) (a : Option Addr) (cap : Nat) (s : ByteArray) (w : World) (hl : ts.length ≤ maxLen) (hs : s.size ≤ maxLen) (hwf : ∀ t ∈ ts, t.wf) (hb : TBs w a ts) :
    Calls Try.prog 3 #[.slice a ts.length cap, .string s] w fun e w' => e = .returned (.bool true) ∧ Below w.heap.size w w' := by
  have HWF : Hid (∀ t ∈ ts, t.wf) := hwf
  have HB : Hid (TBs w a ts) := hb
  have HL : Hid (ts.length ≤ maxLen ∧ s.size ≤ maxLen) := ⟨hl, hs⟩
  clear hwf hb hl hs
  obtain ⟨n, hn⟩ : ∃ n, n = ts.length := ⟨_, rfl⟩
  have HN : Hid (n = ts.length) := hn
  rw [← hn]
  clear hn
  go_enter Try.func3, Try.ntmps3
  go_wp2_with fail
  refine (bytes_any n a cap s w (by rw [HN.out]; exact HL.out.1) HL.out.2).mono ?_
  rintro e w1 ⟨⟨v, rfl, hv⟩, rfl⟩
  cases v with
  | false =>
    clear hv
    go_wp2_with fail
    go_ret
    exact ⟨rfl, Below.refl _ _⟩
  | true =>
    obtain ⟨hn, hs⟩ := hv rfl
    clear hv
    by_cases c1 : 4096 < (n : Int)
    · go_wp2_with fail
      go_ret
      exact ⟨rfl, Below.refl _ _⟩
    · have c1' : (n : Int) ≤ 4096 := by omega
      have d1 : decide (4096 < (n : Int)) = false := by simp; omega
      have d1n : decide (4096 < n) = false := by simp; omega
      clear c1
      by_cases c2 : 4096 < (s.size : Int)
      · go_wp2_with fail
        go_ret
        exact ⟨rfl, Below.refl _ _⟩
      · have c2' : (s.size : Int) ≤ 4096 := by omega
        have d2 : decide (4096 < (s.size : Int)) = false := by simp; omega
        have d2n : decide (4096 < s.size) = false := by simp; omega
        clear c2
        have c3 : (n : Int) * 56 + (s.size : Int) ≤ 1048576 := by omega
        have d3 : decide (1048576 < (n : Int) * 56 + (s.size : Int)) = false := by simp; omega
        go_wp2_with fail
        have HLN : Hid (ts.length ≤ 1048576) := by show _ ≤ _; rw [← HN.out]; exact hn
        have C10 := shaped_any ts a cap w HLN.out HB.out
        rw [← HN.out] at C10
        refine C10.mono ?_
        rintro e w2 ⟨v2, rfl, hv2, hb2⟩
        clear C10
        cases v2 with
        | false =>
          clear hv2
          go_wp2_with fail
          go_ret
          exact ⟨rfl, hb2⟩
        | true =>
          have HSND : Hid (Sound ts s.data.toList (O ts s.data.toList)) := (sound ts true (hv2 rfl)).1 _
          have HB2 : Hid (TBs w2 a ts) := HB.out.below (Nat.le_refl _) hb2
          have HBL2 : Hid (Below w.heap.size w w2) := hb2
          have hsz2 := hb2.size
          clear hv2 hb2
          go_wp2_with fail
          have C12 := build_any ts a cap w2 HLN.out HB2.out
          rw [← HN.out] at C12
          refine C12.mono ?_
          rintro e w3 ⟨rfl, hnew, hb3⟩
          clear C12
          have HBN : Hid (TBs w3 (some ⟨w2.heap.size, 0, none⟩) ts) := hnew
          have HB3 : Hid (TBs w3 a ts) := HB2.out.below (Nat.le_refl _) hb3
          have HBL3 : Hid (Below w.heap.size w w3) := HBL2.out.trans (hb3.mono hsz2)
          have hsz3 := HBL3.out.size
          clear hnew hb3
          go_wp2_with fail
          have C11 := zzm_any ts (some ⟨w2.heap.size, 0, none⟩) ts.length s w3 HLN.out (Nat.le_refl _) (by omega) HWF.out HBN.out
          rw [← HN.out] at C11
          refine C11.mono ?_
          rintro e w4 ⟨rfl, hb4⟩
          clear C11
          have HB4 : Hid (TBs w4 a ts) := HB3.out.below (Nat.le_refl _) hb4
          have HBL4 : Hid (Below w.heap.size w w4) := HBL3.out.trans (hb4.mono hsz3)
          have hsz4 := HBL4.out.size
          clear hb4 HBN
          obtain ⟨h0123, hiff, _, _, _⟩ := HSND.out
          have HF : Hid (hasK 3 ts = false → hasK 4 ts = false → SF ts s.data.toList = O ts s.data.toList) := fun h3 h4 => (O_free ts (fun t ht => by
            rintro (h | h)
            · exact hasK_false h3 t ht h
            · exact hasK_false h4 t ht h) _).symm
          have HT3 : Hid (O ts s.data.toList = 3 → hasK 3 ts = true) := fun h => hasK_true (O_three ts _ h)
          have hmr : Mr ts s 0 0 = M ts s.data.toList := Mr_00 ts s
          obtain ⟨o, ho⟩ : ∃ o, o = O ts s.data.toList := ⟨_, rfl⟩
          have hm : Mr ts s 0 0 = decide (o = 0) := by
            rw [hmr]
            rw [← ho] at hiff
            by_cases h : o = 0
            · rw [hiff.1 h]; simp [h]
            · rw [M_false hiff h]; simp [h]
          have HM : Hid (Mr ts s 0 0 = decide (o = 0)) := hm
          rw [← ho] at h0123 HF HT3 ⊢
          clear ho hm hmr hiff HSND
          have HC13 : Hid (Calls Try.prog 13 #[.slice a n cap, .string s] w4 fun e w' => ∃ X, e = .returned (.slice (some ⟨X, 0, none⟩) (s.size + 1) (s.size + 1)) ∧ RowB w' X (s.size + 1) (Mr ts s 0) ∧ Below w4.heap.size w4 w') := by
            have C := table_any ts a cap s w4 HLN.out hs HWF.out HB4.out
            rw [← HN.out] at C
            exact C
          have HCK : Hid (∀ kd w', TBs w' a ts → Calls Try.prog 14 #[.slice a n cap, .int .i64 kd] w' fun e w'' => e = .returned (.bool (hasK kd ts)) ∧ w' = w'') := by
            intro kd w' hb
            have C := hask_any kd ts a cap w' HLN.out hb
            rw [← HN.out] at C
            exact C
          have HCS : Hid (∀ w', TBs w' a ts → Calls Try.prog 15 #[.slice a n cap, .string s] w' fun e w'' => e = .returned (.int .i64 (SF ts s.data.toList)) ∧ Below w'.heap.size w' w'') := by
            intro w' hb
            have C := sf_any ts a cap s w' HLN.out hs HWF.out hb
            rw [← HN.out] at C
            exact C
          obtain ⟨h3, hh3⟩ : ∃ h3, h3 = hasK 3 ts := ⟨_, rfl⟩
          obtain ⟨h4, hh4⟩ : ∃ h4, h4 = hasK 4 ts := ⟨_, rfl⟩
          have HH3 : Hid (h3 = hasK 3 ts) := hh3
          have HH4 : Hid (h4 = hasK 4 ts) := hh4
          rw [← hh3, ← hh4] at HF
          rw [← hh3] at HT3
          clear hh3 hh4
          rcases h0123 with rfl | rfl | rfl | rfl
          · go_wp2_with fail
            refine HC13.out.mono ?_
            rintro e w5 ⟨X, rfl, hrow, hb5⟩
            have HB5 : Hid (TBs w5 a ts) := HB4.out.below (Nat.le_refl _) hb5
            have HBL5 : Hid (Below w.heap.size w w5) := HBL4.out.trans (hb5.mono hsz4)
            have hsz5 := HBL5.out.size
            have cx := hrow.cell (j := 0) (by omega)
            rw [HM.out] at cx
            simp at cx
            clear hrow hb5
            cases h3 with
            | true =>
              go_wp2_with fail
              refine (HCK.out 3 _ HB5.out).mono ?_
              rintro e w6 ⟨rfl, rfl⟩
              rw [← HH3.out]
              go_wp2_with fail
              go_ret
              exact ⟨rfl, HBL5.out⟩
            | false =>
              cases h4 with
              | true =>
                go_wp2_with fail
                refine (HCK.out 3 _ HB5.out).mono ?_
                rintro e w6 ⟨rfl, rfl⟩
                rw [← HH3.out]
                go_wp2_with fail
                refine (HCK.out 4 _ HB5.out).mono ?_
                rintro e w7 ⟨rfl, rfl⟩
                rw [← HH4.out]
                go_wp2_with fail
                go_ret
                exact ⟨rfl, HBL5.out⟩
              | false =>
                go_wp2_with fail
                refine (HCK.out 3 _ HB5.out).mono ?_
                rintro e w6 ⟨rfl, rfl⟩
                rw [← HH3.out]
                go_wp2_with fail
                refine (HCK.out 4 _ HB5.out).mono ?_
                rintro e w7 ⟨rfl, rfl⟩
                rw [← HH4.out]
                go_wp2_with fail
                refine (HCS.out _ HB5.out).mono ?_
                rintro e w8 ⟨rfl, hb8⟩
                rw [HF.out (by trivial) (by trivial)]
                go_wp2_with fail
                go_ret
                exact ⟨rfl, HBL5.out.trans (hb8.mono hsz5)⟩
          · go_wp2_with fail
            refine HC13.out.mono ?_
            rintro e w5 ⟨X, rfl, hrow, hb5⟩
            have HB5 : Hid (TBs w5 a ts) := HB4.out.below (Nat.le_refl _) hb5
            have HBL5 : Hid (Below w.heap.size w w5) := HBL4.out.trans (hb5.mono hsz4)
            have hsz5 := HBL5.out.size
            have cx := hrow.cell (j := 0) (by omega)
            rw [HM.out] at cx
            simp at cx
            clear hrow hb5
            cases h3 with
            | true =>
              go_wp2_with fail
              refine (HCK.out 3 _ HB5.out).mono ?_
              rintro e w6 ⟨rfl, rfl⟩
              rw [← HH3.out]
              go_wp2_with fail
              go_ret
              exact ⟨rfl, HBL5.out⟩
            | false =>
              cases h4 with
              | true =>
                go_wp2_with fail
                refine (HCK.out 3 _ HB5.out).mono ?_
                rintro e w6 ⟨rfl, rfl⟩
                rw [← HH3.out]
                go_wp2_with fail
                refine (HCK.out 4 _ HB5.out).mono ?_
                rintro e w7 ⟨rfl, rfl⟩
                rw [← HH4.out]
                go_wp2_with fail
                go_ret
                exact ⟨rfl, HBL5.out⟩
              | false =>
                go_wp2_with fail
                refine (HCK.out 3 _ HB5.out).mono ?_
                rintro e w6 ⟨rfl, rfl⟩
                rw [← HH3.out]
                go_wp2_with fail
                refine (HCK.out 4 _ HB5.out).mono ?_
                rintro e w7 ⟨rfl, rfl⟩
                rw [← HH4.out]
                go_wp2_with fail
                refine (HCS.out _ HB5.out).mono ?_
                rintro e w8 ⟨rfl, hb8⟩
                rw [HF.out (by trivial) (by trivial)]
                go_wp2_with fail
                go_ret
                exact ⟨rfl, HBL5.out.trans (hb8.mono hsz5)⟩
          · go_wp2_with fail
            refine HC13.out.mono ?_
            rintro e w5 ⟨X, rfl, hrow, hb5⟩
            have HB5 : Hid (TBs w5 a ts) := HB4.out.below (Nat.le_refl _) hb5
            have HBL5 : Hid (Below w.heap.size w w5) := HBL4.out.trans (hb5.mono hsz4)
            have hsz5 := HBL5.out.size
            have cx := hrow.cell (j := 0) (by omega)
            rw [HM.out] at cx
            simp at cx
            clear hrow hb5
            cases h3 with
            | true =>
              go_wp2_with fail
              refine (HCK.out 3 _ HB5.out).mono ?_
              rintro e w6 ⟨rfl, rfl⟩
              rw [← HH3.out]
              go_wp2_with fail
              go_ret
              exact ⟨rfl, HBL5.out⟩
            | false =>
              cases h4 with
              | true =>
                go_wp2_with fail
                refine (HCK.out 3 _ HB5.out).mono ?_
                rintro e w6 ⟨rfl, rfl⟩
                rw [← HH3.out]
                go_wp2_with fail
                refine (HCK.out 4 _ HB5.out).mono ?_
                rintro e w7 ⟨rfl, rfl⟩
                rw [← HH4.out]
                go_wp2_with fail
                go_ret
                exact ⟨rfl, HBL5.out⟩
              | false =>
                go_wp2_with fail
                refine (HCK.out 3 _ HB5.out).mono ?_
                rintro e w6 ⟨rfl, rfl⟩
                rw [← HH3.out]
                go_wp2_with fail
                refine (HCK.out 4 _ HB5.out).mono ?_
                rintro e w7 ⟨rfl, rfl⟩
                rw [← HH4.out]
                go_wp2_with fail
                refine (HCS.out _ HB5.out).mono ?_
                rintro e w8 ⟨rfl, hb8⟩
                rw [HF.out (by trivial) (by trivial)]
                go_wp2_with fail
                go_ret
                exact ⟨rfl, HBL5.out.trans (hb8.mono hsz5)⟩
          · go_wp2_with fail
            refine HC13.out.mono ?_
            rintro e w5 ⟨X, rfl, hrow, hb5⟩
            have HB5 : Hid (TBs w5 a ts) := HB4.out.below (Nat.le_refl _) hb5
            have HBL5 : Hid (Below w.heap.size w w5) := HBL4.out.trans (hb5.mono hsz4)
            have hsz5 := HBL5.out.size
            have cx := hrow.cell (j := 0) (by omega)
            rw [HM.out] at cx
            simp at cx
            clear hrow hb5
            obtain rfl : h3 = true := HT3.out (by trivial)
            go_wp2_with fail
            refine (HCK.out 3 _ HB5.out).mono ?_
            rintro e w6 ⟨rfl, rfl⟩
            rw [← HH3.out]
            go_wp2_with fail
            refine (HCK.out 3 _ HB5.out).mono ?_
            rintro e w9 ⟨rfl, rfl⟩
            rw [← HH3.out]
            go_wp2_with fail
            go_ret
            exact ⟨rfl, HBL5.out⟩
end Go.Proofs.Qxb6603216a
