import Derived.Test.Qxb6601854aLend
namespace Go.Proofs.Qxb6601854a
open Go.RowKit

set_option maxHeartbeats 1000000 in
/-- valueEnd at a number, true, false or null. -/
theorem vend_scan (l : List Int) (hl : ∀ x ∈ l, 0 ≤ x ∧ x ≤ 255) (b off cap i : Nat) (hlen : l.length ≤ 1073741824) (hi : i < l.length) (w : World)
    (hc : ∀ i, i < l.length → w.cell? ⟨b, off + i, none⟩ = some (.int .u8 (l.getD i 0))) (ho : isOpen (l.getD i 0) = false) :
    Calls Try.prog 18 #[.slice (some ⟨b, off, none⟩) l.length cap, .int .i64 (i : Int)] w fun e w' => e = .returned (.int .i64 (scanN l i : Int)) ∧ ∃ n, w' = w.drewN n := by
  have HB : Hid (∀ i, i < l.length → w.cell? ⟨b, off + i, none⟩ = some (.int .u8 (l.getD i 0))) := hc
  have HL : Hid (∀ x ∈ l, 0 ≤ x ∧ x ≤ 255) := hl
  obtain ⟨c, hcc⟩ : ∃ c, c = l.getD i 0 := ⟨_, rfl⟩
  have hcell0 := hc i hi
  rw [← hcc] at hcell0 ho
  clear hc hcc hl
  have hil : (i : Int) < (l.length : Int) := by omega
  have g1 : (c == 34) = false := by unfold isOpen at ho; simp at ho; simpa using ho.1.1
  have g2 : (c == 123) = false := by unfold isOpen at ho; simp at ho; simpa using ho.1.2
  have g3 : (c == 91) = false := by unfold isOpen at ho; simp at ho; simpa using ho.2
  clear ho
  go_enter Try.func18, Try.ntmps18
  go_wp2_with fail
  clear hcell0
  go_loopw [8] (fun v wr => ∃ k : Nat, k ≤ l.length ∧ v = .int .i64 (k : Int) ∧ Hid (scanN l k = scanN l i) ∧ ∃ n, wr = w.drewN n) (fun v _ => l.length - (intOf v).toNat)
  case atStart => exact ⟨i, by omega, rfl, rfl, 0, rfl⟩
  case round =>
    obtain ⟨k, hk, rfl, HS, n, rfl⟩ := hrel
    by_cases hlt : k < l.length
    · obtain ⟨x, hx⟩ : ∃ x, x = l.getD k 0 := ⟨_, rfl⟩
      have hcell := HB.out k hlt
      have hbd := getD_mem_bd HL.out k hlt
      rw [← hx] at hcell hbd
      obtain ⟨hb0, hb1⟩ := hbd
      have HX : Hid (x = l.getD k 0) := hx
      clear hx
      have hkl : (k : Int) < (l.length : Int) := by omega
      cases hd : isDelim x with
      | true =>
        go_wp2_with (go_at_call 20; refine (cr_dl _ _ hb0 hb1).mono ?_; rintro e w' ⟨rfl, m, rfl⟩)
        go_ret
        refine ⟨?_, n + m, by simp⟩
        have h2 := HS.out
        rw [scanN_no hlt (HX.out ▸ hd)] at h2
        exact ret_nat h2
      | false =>
        go_wp2_with (go_at_call 20; refine (cr_dl _ _ hb0 hb1).mono ?_; rintro e w' ⟨rfl, m, rfl⟩)
        go_roundw
        case rel => exact ⟨k + 1, by omega, by go_num, (scanN_step hlt (HX.out ▸ hd)).symm.trans HS.out, n + m, by simp⟩
        case measure => simp [intOf]; omega
    · obtain rfl : k = l.length := by omega
      go_wp2_with fail
      go_ret
      refine ⟨?_, n, rfl⟩
      have h2 := HS.out
      rw [scanN_end (Nat.le_refl _)] at h2
      exact ret_nat h2

set_option maxHeartbeats 1000000 in
/-- valueEnd at a string that closes. -/
theorem vend_str (l : List Int) (b off cap i e : Nat) (hlen : l.length ≤ 1073741824) (hi : i < l.length) (w : World)
    (hc : ∀ i, i < l.length → w.cell? ⟨b, off + i, none⟩ = some (.int .u8 (l.getD i 0))) (ho : l.getD i 0 = 34) (he : lexJ (l.drop (i + 1)) 0 1 (i + 1) = some e) :
    Calls Try.prog 18 #[.slice (some ⟨b, off, none⟩) l.length cap, .int .i64 (i : Int)] w fun e' w' => e' = .returned (.int .i64 (e : Int)) ∧ w = w' := by
  have HB : Hid (∀ i, i < l.length → w.cell? ⟨b, off + i, none⟩ = some (.int .u8 (l.getD i 0))) := hc
  have hcell0 := hc i hi
  rw [ho] at hcell0
  have HE : Hid (lexJ (l.drop (i + 1)) 0 1 (i + 1) = some e) := he
  clear hc ho he
  have hil : (i : Int) < (l.length : Int) := by omega
  go_enter Try.func18, Try.ntmps18
  go_wp2_with fail
  clear hcell0
  go_loopw [5] (fun v wr => ∃ k : Nat, k ≤ l.length ∧ v = .int .i64 (k : Int) ∧ Hid (lexJ (l.drop k) 0 1 k = some e) ∧ wr = w) (fun v _ => l.length - (intOf v).toNat)
  case atStart => exact ⟨i + 1, by omega, by go_num, HE, rfl⟩
  case round =>
    obtain ⟨k, hk, rfl, HS, rfl⟩ := hrel
    have hlt : k < l.length := by
      by_cases h : k < l.length
      · exact h
      · have := HS.out
        rw [lex_none l 0 1 k (by omega)] at this; cases this
    obtain ⟨x, hx⟩ : ∃ x, x = l.getD k 0 := ⟨_, rfl⟩
    have hcell := HB.out k hlt
    rw [← hx] at hcell
    have HX : Hid (l.getD k 0 = x) := hx.symm
    clear hx
    have hkl : (k : Int) < (l.length : Int) := by omega
    rcases (show x = 92 ∨ x = 34 ∨ (¬ x = 92 ∧ ¬ x = 34) from by omega) with rfl | rfl | ⟨h1, h2⟩
    · have hs2 := HS.out
      rw [lex_s1_bs l 0 k hlt HX.out] at hs2
      have hlt2 : k + 1 < l.length := by
        by_cases h : k + 1 < l.length
        · exact h
        · rw [lex_none l 0 2 (k + 1) (by omega)] at hs2; cases hs2
      rw [lex_s2 l 0 (k + 1) hlt2] at hs2
      have HS2 : Hid (lexJ (l.drop (k + 1 + 1)) 0 1 (k + 1 + 1) = some e) := hs2
      clear hs2
      go_wp2_with fail
      go_roundw
      case rel => exact ⟨k + 1 + 1, by omega, by go_num, HS2, trivial⟩
      case measure => simp [intOf]; omega
    · have hs2 := HS.out
      rw [lex_s1_q0 l k hlt HX.out] at hs2
      cases hs2
      go_wp2_with fail
      go_ret
      exact ⟨by go_num, rfl⟩
    · have HN : Hid (l.getD k 0 ≠ 92 ∧ l.getD k 0 ≠ 34) := by show _ ∧ _; rw [HX.out]; exact ⟨h1, h2⟩
      have g1 : (x == 92) = false := by simpa using h1
      have g2 : (x == 34) = false := by simpa using h2
      clear h1 h2
      go_wp2_with fail
      go_roundw
      case rel => exact ⟨k + 1, by omega, by go_num, (lex_s1_o l 0 k hlt HN.out.1 HN.out.2).symm.trans HS.out, trivial⟩
      case measure => simp [intOf]; omega

set_option maxHeartbeats 2000000 in
/-- valueEnd at an object or an array that closes. -/
theorem vend_grp (l : List Int) (b off cap i e c : Nat) (hlen : l.length ≤ 1073741824) (hi : i < l.length) (w : World)
    (hc : ∀ i, i < l.length → w.cell? ⟨b, off + i, none⟩ = some (.int .u8 (l.getD i 0))) (hcc : c = 123 ∨ c = 91) (ho : l.getD i 0 = (c : Int)) (he : lexJ (l.drop i) 0 0 i = some e) :
    Calls Try.prog 18 #[.slice (some ⟨b, off, none⟩) l.length cap, .int .i64 (i : Int)] w fun e' w' => e' = .returned (.int .i64 (e : Int)) ∧ w = w' := by
  have HB : Hid (∀ i, i < l.length → w.cell? ⟨b, off + i, none⟩ = some (.int .u8 (l.getD i 0))) := hc
  have hcell0 := hc i hi
  rw [ho] at hcell0
  have HE : Hid (lexJ (l.drop i) 0 0 i = some e) := he
  have HO : Hid (l.getD i 0 = 123 ∨ l.getD i 0 = 91) := by show _ ∨ _; rw [ho]; omega
  clear hc ho he
  have hil : (i : Int) < (l.length : Int) := by omega
  rcases hcc with rfl | rfl
  all_goals
    go_enter Try.func18, Try.ntmps18
    go_wp2_with fail
    clear hcell0
    go_loopw [6, 7] (fun dv v wr => ∃ (k : Nat) (d : Int), k ≤ l.length ∧ v = .int .i64 (k : Int) ∧ dv = .int .i64 d ∧ (k = i ∧ d = 0 ∨ 1 ≤ d) ∧ d ≤ k ∧ Hid (lexJ (l.drop k) d 0 k = some e) ∧ wr = w) (fun _ v _ => l.length - (intOf v).toNat)
    case atStart => exact ⟨i, 0, by omega, rfl, rfl, .inl ⟨rfl, rfl⟩, by omega, HE, rfl⟩
    case round =>
      obtain ⟨k, d, hk, rfl, rfl, hd0, hd1, HS, rfl⟩ := hrel
      have hlt : k < l.length := by
        by_cases h : k < l.length
        · exact h
        · have := HS.out
          rw [lex_none l d 0 k (by omega)] at this; cases this
      have hdm : 0 ≤ d := by omega
      have HD : Hid (k = i ∧ d = 0 ∨ 1 ≤ d) := hd0
      clear hd0
      obtain ⟨x, hx⟩ : ∃ x, x = l.getD k 0 := ⟨_, rfl⟩
      have hcell := HB.out k hlt
      rw [← hx] at hcell
      have HX : Hid (l.getD k 0 = x) := hx.symm
      clear hx
      have hkl : (k : Int) < (l.length : Int) := by omega
      rcases (show x = 34 ∨ (x = 123 ∨ x = 91) ∨ (x = 125 ∨ x = 93) ∨ (¬ x = 34 ∧ ¬ x = 123 ∧ ¬ x = 91 ∧ ¬ x = 125 ∧ ¬ x = 93) from by omega) with rfl | h | h | ⟨h1, h2, h3, h4, h5⟩
      · have hd2 : 1 ≤ d := by
          rcases HD.out with ⟨rfl, _⟩ | h
          · have a := HO.out; have b := HX.out; omega
          · exact h
        have hs2 := HS.out
        rw [lex_s0_q l d k hlt HX.out] at hs2
        obtain ⟨e', he1, he2, he3, he4⟩ := lexJ_str l d (by omega) _ 1 (k + 1) e rfl (.inl rfl) hs2
        have H3 : Hid (lexJ (l.drop (k + 1)) 0 1 (k + 1) = some e') := he3
        have H4 : Hid (lexJ (l.drop e') d 0 e' = some e) := he4
        clear hs2 he3 he4
        go_wp2_with (go_at_call 18; refine (vend_str l b off cap k e' hlen hlt _ HB.out HX.out H3.out).mono ?_; rintro e w' ⟨rfl, rfl⟩)
        go_roundw
        case rel => exact ⟨e', d, by omega, by go_num, rfl, .inr hd2, by omega, H4, trivial⟩
        case measure => simp [intOf]; omega
      · have HU : Hid (l.getD k 0 = 123 ∨ l.getD k 0 = 91) := by show _ ∨ _; rw [HX.out]; exact h
        rcases h with rfl | rfl
        all_goals
          go_wp2_with fail
          go_roundw
          case rel => exact ⟨k + 1, d + 1, by omega, by go_num, rfl, .inr (by omega), by omega, (lex_s0_up l d k hlt HU.out).symm.trans HS.out, trivial⟩
          case measure => simp [intOf]; omega
      · have HU : Hid (l.getD k 0 = 125 ∨ l.getD k 0 = 93) := by show _ ∨ _; rw [HX.out]; exact h
        have hd2 : 1 ≤ d := by
          rcases HD.out with ⟨rfl, _⟩ | h
          · have a := HO.out; have b := HU.out; omega
          · exact h
        by_cases hz : d - 1 = 0
        · have hzz : (d - 1 == 0) = true := by simpa using hz
          have hs2 := HS.out
          rw [lex_s0_out l d k hlt HU.out hz] at hs2
          cases hs2
          clear hz
          rcases h with rfl | rfl
          all_goals
            go_wp2_with fail
            go_ret
            exact ⟨by go_num, rfl⟩
        · have HZ : Hid (d - 1 ≠ 0) := hz
          have hzz : (d - 1 == 0) = false := by simpa using hz
          have hd3 : 1 ≤ d - 1 := by omega
          clear hz
          rcases h with rfl | rfl
          all_goals
            go_wp2_with fail
            go_roundw
            case rel => exact ⟨k + 1, d - 1, by omega, by go_num, rfl, .inr hd3, by omega, (lex_s0_down l d k hlt HU.out HZ.out).symm.trans HS.out, trivial⟩
            case measure => simp [intOf]; omega
      · have HN : Hid (l.getD k 0 ≠ 34 ∧ ¬ (l.getD k 0 = 123 ∨ l.getD k 0 = 91) ∧ ¬ (l.getD k 0 = 125 ∨ l.getD k 0 = 93)) := by
          show _ ∧ _
          rw [HX.out]; exact ⟨h1, by omega, by omega⟩
        have hd2 : 1 ≤ d := by
          rcases HD.out with ⟨rfl, _⟩ | h
          · exact absurd HO.out HN.out.2.1
          · exact h
        have g1 : (x == 34) = false := by simpa using h1
        have g2 : (x == 123) = false := by simpa using h2
        have g3 : (x == 91) = false := by simpa using h3
        have g4 : (x == 125) = false := by simpa using h4
        have g5 : (x == 93) = false := by simpa using h5
        clear h1 h2 h3 h4 h5
        go_wp2_with fail
        go_roundw
        case rel => exact ⟨k + 1, d, by omega, by go_num, rfl, .inr hd2, by omega, (lex_s0_o l d k hlt HN.out.1 HN.out.2.1 HN.out.2.2).symm.trans HS.out, trivial⟩
        case measure => simp [intOf]; omega

/-- What a value's end is, in both functions' words. -/
def Ends (l : List Int) (i e : Nat) : Prop :=
  i < l.length ∧ (isOpen (l.getD i 0) = true ∧ lexJ (l.drop i) 0 0 i = some e ∨ isOpen (l.getD i 0) = false ∧ scanN l i = e)

theorem vend_any (l : List Int) (hl : ∀ x ∈ l, 0 ≤ x ∧ x ≤ 255) (a : Option Addr) (cap i e : Nat) (hlen : l.length ≤ 1073741824) (w : World) (hb : Bs w a l) (hE : Ends l i e) (n : Nat) (hn : n = l.length) (iz : Int) (hiz : iz = (i : Int)) (ez : Int) (hez : ez = (e : Int)) :
    Calls Try.prog 18 #[.slice a n cap, .int .i64 iz] w fun e' w' => e' = .returned (.int .i64 ez) ∧ ∃ n, w' = w.drewN n := by
  subst hn hiz hez
  obtain ⟨hi, hE⟩ := hE
  obtain ⟨b, off, rfl, hc⟩ := hb.resolve_left (by rintro rfl; simp at hi)
  rcases hE with ⟨ho, he⟩ | ⟨ho, he⟩
  · have hcs : l.getD i 0 = 34 ∨ l.getD i 0 = ((123 : Nat) : Int) ∨ l.getD i 0 = ((91 : Nat) : Int) := by
      unfold isOpen at ho; simp only [Bool.or_eq_true, beq_iff_eq] at ho; omega
    rcases hcs with h | h | h
    · rw [lex_s0_q l 0 i hi h] at he
      refine (vend_str l b off cap i e hlen hi w hc h he).mono ?_
      rintro e' w' ⟨rfl, rfl⟩; exact ⟨rfl, 0, rfl⟩
    · refine (vend_grp l b off cap i e 123 hlen hi w hc (.inl rfl) h he).mono ?_
      rintro e' w' ⟨rfl, rfl⟩; exact ⟨rfl, 0, rfl⟩
    · refine (vend_grp l b off cap i e 91 hlen hi w hc (.inr rfl) h he).mono ?_
      rintro e' w' ⟨rfl, rfl⟩; exact ⟨rfl, 0, rfl⟩
  · rw [← he]
    exact vend_scan l hl b off cap i hlen hi w hc ho

theorem zzve_any (l : List Int) (hl : ∀ x ∈ l, 0 ≤ x ∧ x ≤ 255) (a : Option Addr) (cap i e : Nat) (hlen : l.length ≤ 1073741824) (w : World) (hb : Bs w a l) (hE : Ends l i e) (n : Nat) (hn : n = l.length) (iz : Int) (hiz : iz = (i : Int)) (ez : Int) (hez : ez = (e : Int)) :
    Calls Try.prog 12 #[.slice a n cap, .int .i64 iz] w fun e' w' => e' = .returned (.int .i64 ez) ∧ ∃ n, w' = w.drewN n := by
  subst hn hiz hez
  go_enter Try.func12, Try.ntmps12
  go_wp2_with fail
  refine (vend_any l hl a cap i e hlen _ hb hE _ rfl _ rfl _ rfl).mono ?_
  rintro e w1 ⟨rfl, n, rfl⟩
  go_wp2_with fail
  go_ret
  exact ⟨rfl, n, rfl⟩
end Go.Proofs.Qxb6601854a
