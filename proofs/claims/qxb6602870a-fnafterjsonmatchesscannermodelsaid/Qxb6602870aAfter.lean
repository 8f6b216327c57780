import Derived.Test.Qxb6602870aBase
namespace Go.Proofs.Qxb6602870a
open Go.RowKit

theorem ret_two {a b : Int} {k m : Bool} (h : (a, k) = (b, m)) : Ending.returned (.tuple #[.int .u8 a, .bool k]) = .returned (.tuple #[.int .u8 b, .bool m]) := by cases h; rfl

theorem pw_double (n : Nat) : pw n * 2 = pw (n + 1) := by unfold pw; rw [Int.pow_succ]

theorem pw_range {n : Nat} {b : Int} (h : b = pw n) (hn : n ≤ 6) : 1 ≤ b ∧ (n < 6 → b ≤ 32) ∧ (n = 6 → b = 64) := by
  subst h
  unfold pw
  rcases n with _ | _ | _ | _ | _ | _ | _ | n
  all_goals first | omega | simp

set_option maxRecDepth 100000 in
set_option maxHeartbeats 4000000 in
theorem aj_any (at0 : Int) (l : List Int) (hl : ∀ x ∈ l, 0 ≤ x ∧ x ≤ 255) (a : Option Addr) (cap : Nat) (hlen : l.length ≤ 1073741824) (w : World) (hb : Bs .u8 w a l) :
    Calls Try.prog 16 #[.int .u8 at0, .slice a l.length cap] w fun e w' => e = .returned (.tuple #[.int .u8 (comb at0 l 6).1, .bool (comb at0 l 6).2]) ∧ w = w' := by
  have HL : Hid (∀ x ∈ l, 0 ≤ x ∧ x ≤ 255) := hl
  clear hl
  go_enter Try.func16, Try.ntmps16
  go_wp2_with fail
  go_loopw [4, 5, 6] (fun ev kv sv wr => ∃ (n : Nat) (b E : Int) (K : Bool), n ≤ 6 ∧ Hid (b = pw n ∧ comb at0 l n = (E, K)) ∧ sv = .int .u8 b ∧ 1 ≤ b ∧ b ≤ 64 ∧ ev = .int .u8 E ∧ kv = .bool K ∧ wr = w) (fun _ _ sv _ => 64 - (intOf sv).toNat)
  case atStart => exact ⟨0, 1, 0, false, by omega, ⟨by decide, rfl⟩, rfl, by omega, by omega, rfl, rfl, rfl⟩
  case round =>
    obtain ⟨n, b, E, K, hn, HB, rfl, hb1, hb2, rfl, rfl, rfl⟩ := hrel
    obtain ⟨_, hbl, hbe⟩ := pw_range HB.out.1 hn
    by_cases hn6 : n < 6
    · have hb32 := hbl hn6
      have hst : St b := by rw [HB.out.1]; exact pw_cases hn6
      have HST : Hid (St b) := hst
      have hnx := pw_range (n := n + 1) (b := b * 2) (by rw [HB.out.1, pw_double]) (by omega)
      have hb64 : b * 2 ≤ 64 := by
        by_cases h : n + 1 < 6
        · have := hnx.2.1 h; omega
        · have := hnx.2.2 (by omega); omega
      clear hbl hbe hst hnx
      cases hbit : (bits BinOp.and IntKind.u8 at0 b == 0) with
      | true =>
        go_wp2_with fail
        go_roundw
        case rel =>
          refine ⟨n + 1, b * 2, E, K, by omega, ⟨by rw [HB.out.1, pw_double], ?_⟩, rfl, by omega, by omega, rfl, rfl, trivial⟩
          rw [comb_skip (by rw [← HB.out.1]; exact hbit)]; exact HB.out.2
        case measure => simp [intOf]; omega
      | false =>
        go_wp2_with fail
        obtain ⟨w0, rfl⟩ : ∃ w0 : World, w0 = wr := ⟨_, rfl⟩
        go_loopw [5, 7, 21] (fun kv hv jv wr => ∃ (j : Nat) (h : Int) (k : Bool), j ≤ l.length ∧ jv = .int .i64 (j : Int) ∧ hv = .int .u8 h ∧ kv = .bool k ∧ Hid (run h k (l.drop j) = run b K l ∧ St h) ∧ wr = w0) (fun _ _ jv _ => l.length - (intOf jv).toNat)
        case atStart => exact ⟨0, b, K, by omega, rfl, rfl, rfl, ⟨rfl, HST⟩, rfl⟩
        case round =>
          obtain ⟨j, h, k, hj, rfl, rfl, rfl, HR, rfl⟩ := hrel
          by_cases hlt : j < l.length
          · obtain ⟨bb, off, ha, hc⟩ := hb.resolve_left (by rintro rfl; simp at hlt)
            have hcell := hc j hlt
            have hbd := getD_mem_bd HL.out j hlt
            obtain ⟨c, hcc⟩ : ∃ c, c = l.getD j 0 := ⟨_, rfl⟩
            rw [← hcc] at hcell hbd
            obtain ⟨hc0, hc1⟩ := hbd
            have hrun := HR.out.1
            rw [run_at l j hlt, ← hcc] at hrun
            have HF : Hid (∀ h' k', stepS h c = h' ∧ (k || stepK h c) = k' → run h' k' (l.drop (j + 1)) = run b K l ∧ St h') := by
              rintro h' k' ⟨rfl, rfl⟩
              exact ⟨hrun, step_st HR.out.2⟩
            have hsx := sp_ix c hc0 hc1
            have hhs := HR.out.2
            have hjl : (j : Int) < (l.length : Int) := by omega
            unfold St at hhs
            clear hc hcc hrun HR
            subst ha
            rcases hhs with rfl | rfl | rfl | rfl | rfl | rfl
            · clear hsx
              by_cases h34 : c = 34
              · have HS : Hid (stepS 1 c = 2 ∧ (k || stepK 1 c) = k) := ⟨by simp [stepS, h34], by simp [stepK]⟩
                subst h34
                go_wp2_with fail
                go_roundw
                case rel => exact ⟨j + 1, _, _, by omega, by go_num, rfl, rfl, HF.out _ _ HS.out, trivial⟩
                case measure => simp [intOf]; omega
              · have HS : Hid (stepS 1 c = 1 ∧ (k || stepK 1 c) = k) := ⟨by simp [stepS, h34], by simp [stepK]⟩
                have g34 : (c == 34) = false := by simpa using h34
                clear h34
                go_wp2_with fail
                go_roundw
                case rel => exact ⟨j + 1, _, _, by omega, by go_num, rfl, rfl, HF.out _ _ HS.out, trivial⟩
                case measure => simp [intOf]; omega
            · clear hsx
              rcases (show c = 92 ∨ c = 34 ∨ (¬ c = 92 ∧ ¬ c = 34) from by omega) with h92 | h34 | ⟨h92, h34⟩
              · have HS : Hid (stepS 2 c = 4 ∧ (k || stepK 2 c) = k) := ⟨by simp [stepS, h92], by simp [stepK]⟩
                subst h92
                go_wp2_with fail
                go_roundw
                case rel => exact ⟨j + 1, _, _, by omega, by go_num, rfl, rfl, HF.out _ _ HS.out, trivial⟩
                case measure => simp [intOf]; omega
              · have HS : Hid (stepS 2 c = 1 ∧ (k || stepK 2 c) = k) := ⟨by simp [stepS, h34], by simp [stepK]⟩
                subst h34
                go_wp2_with fail
                go_roundw
                case rel => exact ⟨j + 1, _, _, by omega, by go_num, rfl, rfl, HF.out _ _ HS.out, trivial⟩
                case measure => simp [intOf]; omega
              · have HS : Hid (stepS 2 c = 2 ∧ (k || stepK 2 c) = k) := ⟨by simp [stepS, h92, h34], by simp [stepK]⟩
                have g34 : (c == 34) = false := by simpa using h34
                have g92 : (c == 92) = false := by simpa using h92
                clear h34 h92
                go_wp2_with fail
                go_roundw
                case rel => exact ⟨j + 1, _, _, by omega, by go_num, rfl, rfl, HF.out _ _ HS.out, trivial⟩
                case measure => simp [intOf]; omega
            · clear hsx
              have HS : Hid (stepS 4 c = 2 ∧ (k || stepK 4 c) = k) := ⟨by simp [stepS], by simp [stepK]⟩
              go_wp2_with fail
              go_roundw
              case rel => exact ⟨j + 1, _, _, by omega, by go_num, rfl, rfl, HF.out _ _ HS.out, trivial⟩
              case measure => simp [intOf]; omega
            · clear hsx
              rcases (show c = 92 ∨ c = 34 ∨ (¬ c = 92 ∧ ¬ c = 34) from by omega) with h92 | h34 | ⟨h92, h34⟩
              · have HS : Hid (stepS 8 c = 16 ∧ (k || stepK 8 c) = k) := ⟨by simp [stepS, h92], by simp [stepK]⟩
                subst h92
                go_wp2_with fail
                go_roundw
                case rel => exact ⟨j + 1, _, _, by omega, by go_num, rfl, rfl, HF.out _ _ HS.out, trivial⟩
                case measure => simp [intOf]; omega
              · have HS : Hid (stepS 8 c = 32 ∧ (k || stepK 8 c) = k) := ⟨by simp [stepS, h34], by simp [stepK]⟩
                subst h34
                go_wp2_with fail
                go_roundw
                case rel => exact ⟨j + 1, _, _, by omega, by go_num, rfl, rfl, HF.out _ _ HS.out, trivial⟩
                case measure => simp [intOf]; omega
              · have HS : Hid (stepS 8 c = 8 ∧ (k || stepK 8 c) = k) := ⟨by simp [stepS, h92, h34], by simp [stepK]⟩
                have g34 : (c == 34) = false := by simpa using h34
                have g92 : (c == 92) = false := by simpa using h92
                clear h34 h92
                go_wp2_with fail
                go_roundw
                case rel => exact ⟨j + 1, _, _, by omega, by go_num, rfl, rfl, HF.out _ _ HS.out, trivial⟩
                case measure => simp [intOf]; omega
            · clear hsx
              have HS : Hid (stepS 16 c = 8 ∧ (k || stepK 16 c) = k) := ⟨by simp [stepS], by simp [stepK]⟩
              go_wp2_with fail
              go_roundw
              case rel => exact ⟨j + 1, _, _, by omega, by go_num, rfl, rfl, HF.out _ _ HS.out, trivial⟩
              case measure => simp [intOf]; omega
            · rcases (show c = 34 ∨ c = 58 ∨ (¬ c = 34 ∧ ¬ c = 58) from by omega) with h34 | h58 | ⟨h34, h58⟩
              · have HS : Hid (stepS 32 c = 8 ∧ (k || stepK 32 c) = k) := ⟨by simp [stepS, h34], by simp [stepK, h34]⟩
                subst h34
                clear hsx
                go_wp2_with fail
                go_roundw
                case rel => exact ⟨j + 1, _, _, by omega, by go_num, rfl, rfl, HF.out _ _ HS.out, trivial⟩
                case measure => simp [intOf]; omega
              · have HS : Hid (stepS 32 c = 1 ∧ (k || stepK 32 c) = true) := ⟨by simp [stepS, h58], by simp [stepK, h58]⟩
                subst h58
                clear hsx
                go_wp2_with fail
                go_roundw
                case rel => exact ⟨j + 1, _, _, by omega, by go_num, rfl, rfl, HF.out _ _ HS.out, trivial⟩
                case measure => simp [intOf]; omega
              · have g34 : (c == 34) = false := by simpa using h34
                have g58 : (c == 58) = false := by simpa using h58
                rcases hsx with ⟨hsp, hix⟩ | ⟨hsp, hix⟩
                · have HS : Hid (stepS 32 c = 32 ∧ (k || stepK 32 c) = k) := ⟨by simp [stepS, h34, h58, hsp], by simp [stepK, g58]⟩
                  clear h34 h58 hsp
                  go_wp2_with (go_at_call 20; refine (ixsp_any _ _).mono ?_; rintro e w' ⟨rfl, rfl⟩)
                  go_roundw
                  case rel => exact ⟨j + 1, _, _, by omega, by go_num, rfl, rfl, HF.out _ _ HS.out, trivial⟩
                  case measure => simp [intOf]; omega
                · have HS : Hid (stepS 32 c = 1 ∧ (k || stepK 32 c) = k) := ⟨by simp [stepS, h34, h58, hsp], by simp [stepK, g58]⟩
                  clear h34 h58 hsp
                  go_wp2_with (go_at_call 20; refine (ixsp_any _ _).mono ?_; rintro e w' ⟨rfl, rfl⟩)
                  go_roundw
                  case rel => exact ⟨j + 1, _, _, by omega, by go_num, rfl, rfl, HF.out _ _ HS.out, trivial⟩
                  case measure => simp [intOf]; omega
          · have hge : (l.length : Int) ≤ (j : Int) := by omega
            go_wp2_with fail
            go_roundw
            case rel =>
              refine ⟨n + 1, b * 2, _, k, by omega, ⟨by rw [HB.out.1, pw_double], ?_⟩, rfl, by omega, by omega, rfl, rfl, trivial⟩
              have hr := HR.out.1
              rw [run_end l j (by omega), run_key l b K] at hr
              have hb' : b = pw n := HB.out.1
              rw [comb_take (by rw [← hb']; exact hbit), ← hb', HB.out.2]
              cases hr
              rfl
            case measure => simp [intOf]; omega
    · have hn66 : n = 6 := by omega
      have hb64 := hbe hn66
      have HC : Hid (comb at0 l 6 = (E, K)) := by show _ = _; rw [← hn66]; exact HB.out.2
      clear hbl hbe
      subst hb64
      go_wp2_with fail
      go_ret2
      exact ⟨ret_two HC.out.symm, rfl⟩
end Go.Proofs.Qxb6602870a
