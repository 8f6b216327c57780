import Derived.Test.Qxb6601854aWalkShift
import Derived.Test.Qxb6601854aLex
namespace Go.Proofs.Qxb6601854a
open Go.RowKit

theorem isopen_any (c : Int) (w : World) :
    Calls Try.prog 9 #[.int .u8 c] w fun e w' => e = .returned (.bool (isOpen c)) ∧ w = w' := by
  rcases (show c = 34 ∨ c = 123 ∨ c = 91 ∨ (¬ c = 34 ∧ ¬ c = 123 ∧ ¬ c = 91) from by omega) with rfl | rfl | rfl | ⟨h1, h2, h3⟩
  case inr.inr.inr =>
    have g1 : (c == 34) = false := by simpa using h1
    have g2 : (c == 123) = false := by simpa using h2
    have g3 : (c == 91) = false := by simpa using h3
    have e : isOpen c = false := by simp [isOpen, g1, g2, g3]
    rw [e]
    go_enter Try.func9, Try.ntmps9
    go_wp2
    go_ret
    exact ⟨rfl, rfl⟩
  all_goals
    go_enter Try.func9, Try.ntmps9
    go_wp2
    go_ret
    exact ⟨rfl, rfl⟩

set_option maxHeartbeats 400000 in
theorem isdelim_any (c : Int) (w : World) :
    Calls Try.prog 10 #[.int .u8 c] w fun e w' => e = .returned (.bool (isDelim c)) ∧ w = w' := by
  rcases (show c = 32 ∨ c = 9 ∨ c = 13 ∨ c = 10 ∨ c = 44 ∨ c = 93 ∨ c = 125 ∨ (¬ c = 32 ∧ ¬ c = 9 ∧ ¬ c = 13 ∧ ¬ c = 10 ∧ ¬ c = 44 ∧ ¬ c = 93 ∧ ¬ c = 125) from by omega) with rfl | rfl | rfl | rfl | rfl | rfl | rfl | ⟨h1, h2, h3, h4, h5, h6, h7⟩
  case inr.inr.inr.inr.inr.inr.inr =>
    have g1 : (c == 32) = false := by simpa using h1
    have g2 : (c == 9) = false := by simpa using h2
    have g3 : (c == 13) = false := by simpa using h3
    have g4 : (c == 10) = false := by simpa using h4
    have g5 : (c == 44) = false := by simpa using h5
    have g6 : (c == 93) = false := by simpa using h6
    have g7 : (c == 125) = false := by simpa using h7
    have e : isDelim c = false := by simp [isDelim, g1, g2, g3, g4, g5, g6, g7]
    rw [e]
    clear h1 h2 h3 h4 h5 h6 h7
    go_enter Try.func10, Try.ntmps10
    go_wp2
    go_ret
    exact ⟨rfl, rfl⟩
  all_goals
    go_enter Try.func10, Try.ntmps10
    go_wp2
    go_ret
    exact ⟨rfl, rfl⟩

theorem dl_dec : ∀ n : Fin 256, decide (0 ≤ Lib.indexByte [32, 9, 13, 10, 44, 93, 125] (n.val : Int).toNat.toUInt8) = isDelim (n.val : Int) := by decide +kernel

theorem cr_dl (c : Int) (w : World) (h0 : 0 ≤ c) (h1 : c ≤ 255) :
    Calls Try.prog 20 #[.string ⟨#[32, 9, 13, 10, 44, 93, 125]⟩, .int .i32 c] w fun e w' => e = .returned (.bool (isDelim c)) ∧ ∃ n, w' = w.drewN n := by
  have hsp := dl_dec ⟨c.toNat, by omega⟩
  simp only at hsp
  rw [show ((c.toNat : Nat) : Int) = c from by omega] at hsp
  rw [← hsp]
  exact cr_any ⟨#[32, 9, 13, 10, 44, 93, 125]⟩ c w h0 h1 (by decide) (by decide) (by decide)

theorem ret_nat {k m : Nat} (h : k = m) : Ending.returned (.int .i64 (k : Int)) = .returned (.int .i64 (m : Int)) := by rw [h]

def endZ (o : Option Nat) : Int := match o with | some e => (e : Int) | none => -1

/-- The lexer of the laws at a value that is no string and no group. -/
theorem lend_scan (l : List Int) (b off cap i : Nat) (hlen : l.length ≤ 1073741824) (hi : i < l.length) (w : World)
    (hc : ∀ i, i < l.length → w.cell? ⟨b, off + i, none⟩ = some (.int .u8 (l.getD i 0))) (ho : isOpen (l.getD i 0) = false) :
    Calls Try.prog 8 #[.slice (some ⟨b, off, none⟩) l.length cap, .int .i64 (i : Int)] w fun e w' => e = .returned (.int .i64 (scanN l i : Int)) ∧ w = w' := by
  have HB : Hid (∀ i, i < l.length → w.cell? ⟨b, off + i, none⟩ = some (.int .u8 (l.getD i 0))) := hc
  obtain ⟨c, hcc⟩ : ∃ c, c = l.getD i 0 := ⟨_, rfl⟩
  have hcell0 := hc i hi
  rw [← hcc] at hcell0 ho
  clear hc hcc
  have hil : (i : Int) < (l.length : Int) := by omega
  go_enter Try.func8, Try.ntmps8
  go_wp2_with (go_at_call 9; refine (isopen_any _ _).mono ?_; rintro e w' ⟨rfl, rfl⟩)
  go_loopw [10] (fun v wr => ∃ k : Nat, k ≤ l.length ∧ v = .int .i64 (k : Int) ∧ Hid (scanN l k = scanN l i) ∧ wr = w) (fun v _ => l.length - (intOf v).toNat)
  case atStart => exact ⟨i, by omega, rfl, rfl, rfl⟩
  case round =>
    obtain ⟨k, hk, rfl, HS, rfl⟩ := hrel
    by_cases hlt : k < l.length
    · obtain ⟨x, hx⟩ : ∃ x, x = l.getD k 0 := ⟨_, rfl⟩
      have hcell := HB.out k hlt
      rw [← hx] at hcell
      have HX : Hid (x = l.getD k 0) := hx
      clear hx
      have hkl : (k : Int) < (l.length : Int) := by omega
      cases hd : isDelim x with
      | true =>
        clear hcell0
        go_wp2_with (go_at_call 10; refine (isdelim_any _ _).mono ?_; rintro e w' ⟨rfl, rfl⟩)
        go_ret
        refine ⟨?_, rfl⟩
        have h2 := HS.out
        rw [scanN_no hlt (HX.out ▸ hd)] at h2
        exact ret_nat h2
      | false =>
        go_wp2_with (go_at_call 10; refine (isdelim_any _ _).mono ?_; rintro e w' ⟨rfl, rfl⟩)
        go_roundw
        case rel => exact ⟨k + 1, by omega, by go_num, (scanN_step hlt (HX.out ▸ hd)).symm.trans HS.out, trivial⟩
        case measure => simp [intOf]; omega
    · obtain rfl : k = l.length := by omega
      go_wp2_with fail
      go_ret
      refine ⟨?_, rfl⟩
      have h2 := HS.out
      rw [scanN_end (Nat.le_refl _)] at h2
      exact ret_nat h2

set_option maxHeartbeats 2000000 in
/-- The lexer of the laws at a string or a group. -/
theorem lend_lex (l : List Int) (b off cap i : Nat) (hlen : l.length ≤ 1073741824) (hi : i < l.length) (w : World)
    (hc : ∀ i, i < l.length → w.cell? ⟨b, off + i, none⟩ = some (.int .u8 (l.getD i 0))) (ho : isOpen (l.getD i 0) = true) :
    Calls Try.prog 8 #[.slice (some ⟨b, off, none⟩) l.length cap, .int .i64 (i : Int)] w fun e w' => e = .returned (.int .i64 (endZ (lexJ (l.drop i) 0 0 i))) ∧ w = w' := by
  have HB : Hid (∀ i, i < l.length → w.cell? ⟨b, off + i, none⟩ = some (.int .u8 (l.getD i 0))) := hc
  obtain ⟨c, hcc⟩ : ∃ c, c = l.getD i 0 := ⟨_, rfl⟩
  have hcell0 := hc i hi
  rw [← hcc] at hcell0 ho
  clear hc hcc
  have hil : (i : Int) < (l.length : Int) := by omega
  obtain ⟨E, hE⟩ : ∃ E, E = lexJ (l.drop i) 0 0 i := ⟨_, rfl⟩
  rw [← hE]
  have HE : Hid (lexJ (l.drop i) 0 0 i = E) := hE.symm
  clear hE
  go_enter Try.func8, Try.ntmps8
  go_wp2_with (go_at_call 9; refine (isopen_any _ _).mono ?_; rintro e w' ⟨rfl, rfl⟩)
  clear hcell0
  go_loopw [5, 6, 7, 8] (fun dv sv ev v wr => ∃ (k : Nat) (d : Int) (st : Nat), k ≤ l.length ∧ v = .int .i64 (k : Int) ∧ dv = .int .i64 d ∧ - (k : Int) ≤ d ∧ d ≤ k ∧ (st = 0 ∧ sv = .bool false ∧ ev = .bool false ∨ st = 1 ∧ sv = .bool true ∧ ev = .bool false ∨ st = 2 ∧ sv = .bool true ∧ ev = .bool true) ∧ Hid (lexJ (l.drop k) d st k = E) ∧ wr = w) (fun _ _ _ v _ => l.length - (intOf v).toNat)
  case atStart => exact ⟨i, 0, 0, by omega, rfl, rfl, by omega, by omega, .inl ⟨rfl, rfl, rfl⟩, HE, rfl⟩
  case round =>
    obtain ⟨k, d, st, hk, rfl, rfl, hd0, hd1, hst, HS, rfl⟩ := hrel
    by_cases hlt : k < l.length
    · obtain ⟨x, hx⟩ : ∃ x, x = l.getD k 0 := ⟨_, rfl⟩
      have hcell := HB.out k hlt
      rw [← hx] at hcell
      have HX : Hid (l.getD k 0 = x) := hx.symm
      clear hx
      have hkl : (k : Int) < (l.length : Int) := by omega
      rcases hst with ⟨rfl, rfl, rfl⟩ | ⟨rfl, rfl, rfl⟩ | ⟨rfl, rfl, rfl⟩
      · rcases (show x = 34 ∨ (x = 123 ∨ x = 91) ∨ (x = 125 ∨ x = 93) ∨ (¬ x = 34 ∧ ¬ x = 123 ∧ ¬ x = 91 ∧ ¬ x = 125 ∧ ¬ x = 93) from by omega) with rfl | h | h | ⟨h1, h2, h3, h4, h5⟩
        · go_wp2_with fail
          go_roundw
          case rel => exact ⟨k + 1, d, 1, by omega, by go_num, rfl, by omega, by omega, .inr (.inl ⟨rfl, rfl, rfl⟩), (lex_s0_q l d k hlt HX.out).symm.trans HS.out, trivial⟩
          case measure => simp [intOf]; omega
        · have HU : Hid (l.getD k 0 = 123 ∨ l.getD k 0 = 91) := by show _ ∨ _; rw [HX.out]; exact h
          rcases h with rfl | rfl
          all_goals
            go_wp2_with fail
            go_roundw
            case rel => exact ⟨k + 1, d + 1, 0, by omega, by go_num, rfl, by omega, by omega, .inl ⟨rfl, rfl, rfl⟩, (lex_s0_up l d k hlt HU.out).symm.trans HS.out, trivial⟩
            case measure => simp [intOf]; omega
        · have HU : Hid (l.getD k 0 = 125 ∨ l.getD k 0 = 93) := by show _ ∨ _; rw [HX.out]; exact h
          by_cases hz : d - 1 = 0
          · have HZ : Hid (d - 1 = 0) := hz
            have hzz : (d - 1 == 0) = true := by simpa using hz
            clear hz
            rcases h with rfl | rfl
            all_goals
              go_wp2_with fail
              go_ret
              refine ⟨?_, rfl⟩
              have := HS.out
              rw [lex_s0_out l d k hlt HU.out HZ.out] at this
              rw [← this]; rfl
          · have HZ : Hid (d - 1 ≠ 0) := hz
            have hzz : (d - 1 == 0) = false := by simpa using hz
            clear hz
            rcases h with rfl | rfl
            all_goals
              go_wp2_with fail
              go_roundw
              case rel => exact ⟨k + 1, d - 1, 0, by omega, by go_num, rfl, by omega, by omega, .inl ⟨rfl, rfl, rfl⟩, (lex_s0_down l d k hlt HU.out HZ.out).symm.trans HS.out, trivial⟩
              case measure => simp [intOf]; omega
        · have HN : Hid (l.getD k 0 ≠ 34 ∧ ¬ (l.getD k 0 = 123 ∨ l.getD k 0 = 91) ∧ ¬ (l.getD k 0 = 125 ∨ l.getD k 0 = 93)) := by
            show _ ∧ _
            rw [HX.out]; exact ⟨h1, by omega, by omega⟩
          have g1 : (x == 34) = false := by simpa using h1
          have g2 : (x == 123) = false := by simpa using h2
          have g3 : (x == 91) = false := by simpa using h3
          have g4 : (x == 125) = false := by simpa using h4
          have g5 : (x == 93) = false := by simpa using h5
          clear h1 h2 h3 h4 h5
          go_wp2_with fail
          go_roundw
          case rel => exact ⟨k + 1, d, 0, by omega, by go_num, rfl, by omega, by omega, .inl ⟨rfl, rfl, rfl⟩, (lex_s0_o l d k hlt HN.out.1 HN.out.2.1 HN.out.2.2).symm.trans HS.out, trivial⟩
          case measure => simp [intOf]; omega
      · rcases (show x = 92 ∨ x = 34 ∨ (¬ x = 92 ∧ ¬ x = 34) from by omega) with rfl | rfl | ⟨h1, h2⟩
        · go_wp2_with fail
          go_roundw
          case rel => exact ⟨k + 1, d, 2, by omega, by go_num, rfl, by omega, by omega, .inr (.inr ⟨rfl, rfl, rfl⟩), (lex_s1_bs l d k hlt HX.out).symm.trans HS.out, trivial⟩
          case measure => simp [intOf]; omega
        · by_cases hz : d = 0
          · subst hz
            go_wp2_with fail
            go_ret
            refine ⟨?_, rfl⟩
            have := HS.out
            rw [lex_s1_q0 l k hlt HX.out] at this
            rw [← this]; rfl
          · have HZ : Hid (d ≠ 0) := hz
            have hzz : (d == 0) = false := by simpa using hz
            clear hz
            go_wp2_with fail
            go_roundw
            case rel => exact ⟨k + 1, d, 0, by omega, by go_num, rfl, by omega, by omega, .inl ⟨rfl, rfl, rfl⟩, (lex_s1_q l d HZ.out k hlt HX.out).symm.trans HS.out, trivial⟩
            case measure => simp [intOf]; omega
        · have HN : Hid (l.getD k 0 ≠ 92 ∧ l.getD k 0 ≠ 34) := by show _ ∧ _; rw [HX.out]; exact ⟨h1, h2⟩
          have g1 : (x == 92) = false := by simpa using h1
          have g2 : (x == 34) = false := by simpa using h2
          clear h1 h2
          go_wp2_with fail
          go_roundw
          case rel => exact ⟨k + 1, d, 1, by omega, by go_num, rfl, by omega, by omega, .inr (.inl ⟨rfl, rfl, rfl⟩), (lex_s1_o l d k hlt HN.out.1 HN.out.2).symm.trans HS.out, trivial⟩
          case measure => simp [intOf]; omega
      · -- behind a backslash
        go_wp2_with fail
        go_roundw
        case rel => exact ⟨k + 1, d, 1, by omega, by go_num, rfl, by omega, by omega, .inr (.inl ⟨rfl, rfl, rfl⟩), (lex_s2 l d k hlt).symm.trans HS.out, trivial⟩
        case measure => simp [intOf]; omega
    · have hge : l.length ≤ k := by omega
      go_wp2_with fail
      go_ret
      refine ⟨?_, rfl⟩
      have := HS.out
      rw [lex_none l d st k hge] at this
      rw [← this]; rfl
end Go.Proofs.Qxb6601854a
