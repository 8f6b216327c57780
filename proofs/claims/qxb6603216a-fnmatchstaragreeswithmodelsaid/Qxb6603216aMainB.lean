import Derived.Test.Qxb6603216aTable
import Derived.Test.Qxb6603216aStar
import Derived.Test.Qxb6603216aHead
import Derived.Test.Qxb6603216aSmall
namespace Go.Proofs.Qxb6603216a
open Go.RowKit

theorem hd_kind (cr : Bool) : (hd cr).kind = if cr = true then 4 else 3 := rfl
theorem hd_wf (cr : Bool) : (hd cr).wf := by unfold Tk.wf hd; simp

theorem law2 (cr : Bool) (ts : List Tk) (n : List UInt8) (h : Sh true (hd cr :: ts)) (o : Int) (ho : o = starO cr ts (O ts) (tabO ts).2 n) :
    (o = 0 ↔ M (hd cr :: ts) n = true) ∧ (ts = [] → o = 0 ∨ o = 1) ∧ (ts ≠ [] → o = 0 ∨ o = 2 ∨ (o = 3 ∧ cr = false ∧ (47 : UInt8) ∈ n)) := by
  obtain ⟨hs1, hs2⟩ := sound _ true h
  have hO : O (hd cr :: ts) n = o := by
    rw [ho, O_star ts n (by cases cr <;> simp [hd])]
    congr 1
    cases cr <;> rfl
  have hr := hs2 (hd cr) ts rfl
  refine ⟨?_, ?_, ?_⟩
  · have := (hs1 n).2.1
    rw [hO] at this
    exact this
  · intro h0
    rw [ho, starO, if_pos h0]
    split <;> simp
  · intro hne
    cases cr with
    | true =>
      have hnd : notDbl ts := by
        obtain ⟨_, h4, _⟩ := h
        rcases (h4 rfl).2 with h5 | h5
        · exact absurd h5 hne
        · cases ts with
          | nil => exact absurd rfl hne
          | cons t r =>
            show t.kind ≠ 4
            simp [headSlash, isSlash] at h5
            omega
      rw [ho, starO, if_neg hne]
      by_cases hc : headSlash ts = true ∧ (tabO ts).2 n = 0
      · rw [if_pos ⟨rfl, hc⟩]; simp
      · rw [if_neg (fun h => hc h.2)]
        rcases (loop_dbl hnd hr n).1 with h | h <;> simp [h]
    | false =>
      have hnd : notDbl ts := sh_notDbl h.2.2
      rw [ho, starO, if_neg hne, if_neg (by simp)]
      obtain ⟨h1, _, _, h4⟩ := loop_star hnd hr n
      rcases h1 with h | h | h
      · simp [h]
      · simp [h]
      · obtain ⟨u, v, hn, _⟩ := h4 h
        exact .inr (.inr ⟨h, rfl, by rw [hn]; simp⟩)

set_option maxRecDepth 100000 in
set_option maxHeartbeats 8000000 in
theorem main2 (cr : Bool) (ts : List Tk) (a : Option Addr) (cap : Nat) (s : ByteArray) (w : World) (hl : ts.length ≤ maxLen) (hs : s.size ≤ maxLen) (hwf : ∀ t ∈ ts, t.wf) (hb : TBs w a ts) :
    Calls Try.prog 5 #[.bool cr, .slice a ts.length cap, .string s] w fun e w' => e = .returned (.bool true) ∧ Below w.heap.size w w' := by
  have HWF : Hid (∀ t ∈ ts, t.wf) := hwf
  have HB : Hid (TBs w a ts) := hb
  have HL : Hid (ts.length ≤ maxLen ∧ s.size ≤ maxLen) := ⟨hl, hs⟩
  clear hwf hb hl hs
  obtain ⟨n, hn⟩ : ∃ n, n = ts.length := ⟨_, rfl⟩
  have HN : Hid (n = ts.length) := hn
  rw [← hn]
  clear hn
  go_enter Try.func5, Try.ntmps5
  go_wp2_with fail
  refine (bytes2_any cr n a cap s w (by rw [HN.out]; exact HL.out.1) HL.out.2).mono ?_
  rintro e w1 ⟨⟨v, rfl, hv⟩, rfl⟩
  cases v with
  | false =>
    clear hv
    go_wp2_with fail
    go_ret
    exact ⟨rfl, Below.refl _ _⟩
  | true =>
    obtain ⟨hn, hs⟩ := hv rfl
    clear hv
    by_cases c1 : 4096 < (n : Int)
    · go_wp2_with fail
      go_ret
      exact ⟨rfl, Below.refl _ _⟩
    · have c1' : (n : Int) ≤ 4096 := by omega
      have d1 : decide (4096 < (n : Int)) = false := by simp; omega
      have d1n : decide (4096 < n) = false := by simp; omega
      clear c1
      by_cases c2 : 4096 < (s.size : Int)
      · go_wp2_with fail
        go_ret
        exact ⟨rfl, Below.refl _ _⟩
      · have c2' : (s.size : Int) ≤ 4096 := by omega
        have d2 : decide (4096 < (s.size : Int)) = false := by simp; omega
        have d2n : decide (4096 < s.size) = false := by simp; omega
        clear c2
        have c3 : (n : Int) * 56 + (s.size : Int) ≤ 1048576 := by omega
        have d3 : decide (1048576 < (n : Int) * 56 + (s.size : Int)) = false := by simp; omega
        go_wp2_with fail
        have HLN : Hid (ts.length ≤ 1048575) := by show _ ≤ _; rw [← HN.out]; omega
        have HLA : Hid ((hd cr :: ts).length = n + 1) := by show _ = _; rw [HN.out]; rfl
        have HWA : Hid (∀ t ∈ hd cr :: ts, t.wf) := by
          intro t ht
          rcases List.mem_cons.1 ht with rfl | ht
          · exact hd_wf cr
          · exact HWF.out t ht
        have C19 := head_any cr ts a cap w HLN.out HB.out
        rw [← HN.out] at C19
        refine C19.mono ?_
        rintro e w2 ⟨rfl, hall, hb2⟩
        clear C19
        have HB2 : Hid (TBs w2 a ts) := HB.out.below (Nat.le_refl _) hb2
        have HA2 : Hid (TBs w2 (some ⟨w.heap.size + 1, 0, none⟩) (hd cr :: ts)) := hall
        have HBL2 : Hid (Below w.heap.size w w2) := hb2
        have hsz2 := hb2.size
        clear hall hb2
        go_wp2_with fail
        have C10 := shaped_any (hd cr :: ts) (some ⟨w.heap.size + 1, 0, none⟩) (n + 1) w2 (by rw [HLA.out]; omega) HA2.out
        rw [HLA.out] at C10
        refine C10.mono ?_
        rintro e w3 ⟨v2, rfl, hv2, hb3⟩
        clear C10
        cases v2 with
        | false =>
          clear hv2
          go_wp2_with fail
          go_ret
          exact ⟨rfl, HBL2.out.trans (hb3.mono hsz2)⟩
        | true =>
          have HLAW : Hid (∀ o, o = starO cr ts (O ts) (tabO ts).2 s.data.toList → (o = 0 ↔ M (hd cr :: ts) s.data.toList = true) ∧ (ts = [] → o = 0 ∨ o = 1) ∧ (ts ≠ [] → o = 0 ∨ o = 2 ∨ (o = 3 ∧ cr = false ∧ (47 : UInt8) ∈ s.data.toList))) := fun o ho => law2 cr ts _ (hv2 rfl) o ho
          have HB3 : Hid (TBs w3 a ts) := HB2.out.below (Nat.le_refl _) hb3
          have HA3 : Hid (TBs w3 (some ⟨w.heap.size + 1, 0, none⟩) (hd cr :: ts)) := HA2.out.below (Nat.le_refl _) hb3
          have HBL3 : Hid (Below w.heap.size w w3) := HBL2.out.trans (hb3.mono hsz2)
          have hsz3 := HBL3.out.size
          clear hv2 hb3
          go_wp2_with fail
          have C12 := build_any ts a cap w3 (by have := HLN.out; omega) HB3.out
          rw [← HN.out] at C12
          refine C12.mono ?_
          rintro e w4 ⟨rfl, hnew, hb4⟩
          clear C12
          have HBN : Hid (TBs w4 (some ⟨w3.heap.size, 0, none⟩) ts) := hnew
          have HA4 : Hid (TBs w4 (some ⟨w.heap.size + 1, 0, none⟩) (hd cr :: ts)) := HA3.out.below (Nat.le_refl _) hb4
          have HBL4 : Hid (Below w.heap.size w w4) := HBL3.out.trans (hb4.mono hsz3)
          have hsz4 := HBL4.out.size
          clear hnew hb4
          go_wp2_with fail
          have C20 := zzs_any cr ts (some ⟨w3.heap.size, 0, none⟩) ts.length s w4 (by have := HLN.out; omega) (Nat.le_refl _) (by omega) HWF.out HBN.out
          rw [← HN.out] at C20
          refine C20.mono ?_
          rintro e w5 ⟨rfl, hb5⟩
          clear C20
          have HA5 : Hid (TBs w5 (some ⟨w.heap.size + 1, 0, none⟩) (hd cr :: ts)) := HA4.out.below (Nat.le_refl _) hb5
          have HBL5 : Hid (Below w.heap.size w w5) := HBL4.out.trans (hb5.mono hsz4)
          have hsz5 := HBL5.out.size
          clear hb5 HBN
          obtain ⟨o, ho⟩ : ∃ o, o = starO cr ts (O ts) (tabO ts).2 s.data.toList := ⟨_, rfl⟩
          obtain ⟨hiff, hnil, hcons⟩ := HLAW.out o ho
          rw [← ho]
          clear ho HLAW
          have HM : Hid (Mr (hd cr :: ts) s 0 0 = decide (o = 0)) := by
            show M (hd cr :: ts) s.data.toList = _
            by_cases h : o = 0
            · rw [hiff.1 h]; simp [h]
            · rw [M_false hiff h]; simp [h]
          clear hiff
          have HC13 : Hid (Calls Try.prog 13 #[.slice (some ⟨w.heap.size + 1, 0, none⟩) (n + 1) (n + 1), .string s] w5 fun e w' => ∃ X, e = .returned (.slice (some ⟨X, 0, none⟩) (s.size + 1) (s.size + 1)) ∧ RowB w' X (s.size + 1) (Mr (hd cr :: ts) s 0) ∧ Below w5.heap.size w5 w') := by
            have C := table_any (hd cr :: ts) (some ⟨w.heap.size + 1, 0, none⟩) (n + 1) s w5 (by rw [HLA.out]; omega) hs HWA.out HA5.out
            rw [HLA.out] at C
            exact C
          have HCF : Hid (∀ w', Calls Try.prog 17 #[.string s] w' fun e w'' => ∃ z : Int, e = .returned (.int .i64 z) ∧ (z = -1 ∨ (0 ≤ z ∧ (47 : UInt8) ∈ s.data.toList)) ∧ (z = -1 → ¬ (47 : UInt8) ∈ s.data.toList) ∧ w' = w'') := fun w' => fs_any s w' hs
          have hall : (n = 0 ∧ (o = 0 ∨ o = 1)) ∨ ((0 < n) ∧ (o = 0 ∨ o = 2 ∨ (o = 3 ∧ cr = false ∧ (47 : UInt8) ∈ s.data.toList))) := by
            by_cases h : ts = []
            · exact .inl ⟨by rw [HN.out, h]; rfl, hnil h⟩
            · refine .inr ⟨?_, hcons h⟩
              rw [HN.out]
              cases ts with
              | nil => exact absurd rfl h
              | cons t r => simp
          clear hnil hcons
          rcases hall with ⟨hn0, ho⟩ | ⟨hn1, ho⟩
          · have hn0b : ((n : Int) == 0) = true := by rw [hn0]; rfl
            clear hn0
            rcases ho with rfl | rfl
            · go_wp2_with fail
              refine HC13.out.mono ?_
              rintro e w6 ⟨X, rfl, hrow, hb6⟩
              have HBL6 : Hid (Below w.heap.size w w6) := HBL5.out.trans (hb6.mono hsz5)
              have cx := hrow.cell (j := 0) (by omega)
              rw [HM.out] at cx
              simp at cx
              clear hrow hb6
              go_wp2_with fail
              go_ret
              exact ⟨rfl, HBL6.out⟩
            · go_wp2_with fail
              refine HC13.out.mono ?_
              rintro e w6 ⟨X, rfl, hrow, hb6⟩
              have HBL6 : Hid (Below w.heap.size w w6) := HBL5.out.trans (hb6.mono hsz5)
              have cx := hrow.cell (j := 0) (by omega)
              rw [HM.out] at cx
              simp at cx
              clear hrow hb6
              go_wp2_with fail
              go_ret
              exact ⟨rfl, HBL6.out⟩
          · have hn1b : ((n : Int) == 0) = false := by simp; omega
            clear hn1
            rcases ho with rfl | rfl | ⟨rfl, hcr, hmem⟩
            · go_wp2_with fail
              refine HC13.out.mono ?_
              rintro e w6 ⟨X, rfl, hrow, hb6⟩
              have HBL6 : Hid (Below w.heap.size w w6) := HBL5.out.trans (hb6.mono hsz5)
              have cx := hrow.cell (j := 0) (by omega)
              rw [HM.out] at cx
              simp at cx
              clear hrow hb6
              go_wp2_with fail
              go_ret
              exact ⟨rfl, HBL6.out⟩
            · cases cr with
              | true =>
                go_wp2_with fail
                refine HC13.out.mono ?_
                rintro e w6 ⟨X, rfl, hrow, hb6⟩
                have HBL6 : Hid (Below w.heap.size w w6) := HBL5.out.trans (hb6.mono hsz5)
                have cx := hrow.cell (j := 0) (by omega)
                rw [HM.out] at cx
                simp at cx
                clear hrow hb6
                go_wp2_with fail
                go_ret
                exact ⟨rfl, HBL6.out⟩
              | false =>
                go_wp2_with fail
                refine HC13.out.mono ?_
                rintro e w6 ⟨X, rfl, hrow, hb6⟩
                have HBL6 : Hid (Below w.heap.size w w6) := HBL5.out.trans (hb6.mono hsz5)
                have cx := hrow.cell (j := 0) (by omega)
                rw [HM.out] at cx
                simp at cx
                clear hrow hb6
                go_wp2_with fail
                refine (HCF.out _).mono ?_
                rintro e w7 ⟨z, rfl, hz1, hz2, rfl⟩
                rcases hz1 with hz | ⟨hz, _⟩
                · have hz' : z < 0 := by omega
                  clear hz hz2
                  go_wp2_with fail
                  go_ret
                  exact ⟨rfl, HBL6.out⟩
                · have hz' : ¬ z < 0 := by omega
                  clear hz2
                  go_wp2_with fail
                  go_ret
                  exact ⟨rfl, HBL6.out⟩
            · have HMEM : Hid ((47 : UInt8) ∈ s.data.toList) := hmem
              clear hmem
              subst hcr
              go_wp2_with fail
              refine HC13.out.mono ?_
              rintro e w6 ⟨X, rfl, hrow, hb6⟩
              have HBL6 : Hid (Below w.heap.size w w6) := HBL5.out.trans (hb6.mono hsz5)
              have cx := hrow.cell (j := 0) (by omega)
              rw [HM.out] at cx
              simp at cx
              clear hrow hb6
              go_wp2_with fail
              refine (HCF.out _).mono ?_
              rintro e w7 ⟨z, rfl, hz1, hz2, rfl⟩
              have hz' : 0 ≤ z := by
                rcases hz1 with hz | hz
                · exact absurd HMEM.out (hz2 hz)
                · exact hz.1
              clear hz1 hz2
              go_wp2_with fail
              go_ret
              exact ⟨rfl, HBL6.out⟩
end Go.Proofs.Qxb6603216a
