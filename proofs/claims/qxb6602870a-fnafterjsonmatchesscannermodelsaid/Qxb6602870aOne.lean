import Derived.Test.Qxb6602870aClose
namespace Go.Proofs.Qxb6602870a
open Go.RowKit

theorem run32 (l : List Int) (j : Nat) (hj : j < l.length) (k : Bool) : run 32 k (l.drop j) = run (stepS 32 (l.getD j 0)) (k || stepK 32 (l.getD j 0)) (l.drop (j + 1)) := run_at l j hj 32 k

set_option maxRecDepth 100000 in
set_option maxHeartbeats 4000000 in
theorem one_any (s : Int) (hs : St s) (l : List Int) (hl : ∀ x ∈ l, 0 ≤ x ∧ x ≤ 255) (a : Option Addr) (cap : Nat) (hlen : l.length ≤ 1073741824) (w : World) (hb : Bs .u8 w a l) :
    Calls Try.prog 17 #[.int .u8 s, .slice a l.length cap] w fun e w' => e = .returned (.tuple #[.int .u8 (run s false l).1, .bool (run s false l).2]) ∧ w = w' := by
  have HL : Hid (∀ x ∈ l, 0 ≤ x ∧ x ≤ 255) := hl
  have HST : Hid (St s) := hs
  clear hl hs
  go_enter Try.func17, Try.ntmps17
  go_wp2_with fail
  go_loopw [6, 7, 8] (fun mv kv iv wr => ∃ (i : Nat) (m : Int) (k : Bool), i ≤ l.length ∧ iv = .int .i64 (i : Int) ∧ mv = .int .u8 m ∧ kv = .bool k ∧ Hid (run m k (l.drop i) = run s false l ∧ St m) ∧ wr = w) (fun _ _ iv _ => l.length - (intOf iv).toNat)
  case atStart => exact ⟨0, s, false, by omega, rfl, rfl, rfl, ⟨rfl, HST⟩, rfl⟩
  case round =>
    obtain ⟨i, m, k, hi, rfl, rfl, rfl, HR, rfl⟩ := hrel
    by_cases hlt : i < l.length
    · obtain ⟨bb, off, ha, hc⟩ := hb.resolve_left (by rintro rfl; simp at hlt)
      have HB : Hid (∀ i, i < l.length → wr.cell? ⟨bb, off + i, none⟩ = some (.int .u8 (l.getD i 0))) := hc
      have hil : (i : Int) < (l.length : Int) := by omega
      have hms := HR.out.2
      unfold St at hms
      clear hc
      subst ha
      rcases hms with rfl | rfl | rfl | rfl | rfl | rfl
      · -- a value
        go_wp2_with fail
        refine (index_any l bb off cap i hlen hi _ HB.out).mono ?_
        rintro e w' ⟨q, rfl, hq, rfl⟩
        rcases hq with ⟨rfl, hq⟩ | ⟨n, rfl, hin, hnl, hq⟩
        · have HQ : Hid (run 1 k (l.drop l.length) = run s false l ∧ St 1) := ⟨by rw [run_end l _ (Nat.le_refl _), ← HR.out.1, hq], .inl rfl⟩
          clear hq
          go_wp2_with fail
          go_roundw
          case rel => exact ⟨l.length, 1, k, by omega, rfl, rfl, rfl, HQ, trivial⟩
          case measure => simp [intOf]; omega
        · have HQ : Hid (run 2 k (l.drop (n + 1)) = run s false l ∧ St 2) := ⟨by rw [← HR.out.1, hq], .inr (.inl rfl)⟩
          clear hq
          go_wp2_with fail
          go_roundw
          case rel => exact ⟨n + 1, 2, k, by omega, by go_num, rfl, rfl, HQ, trivial⟩
          case measure => simp [intOf]; omega
      · -- a string
        go_wp2_with fail
        refine (close_any l bb off cap i hlen hlt _ HB.out).mono ?_
        rintro e w' ⟨nx, cl, es, rfl, hok, rfl⟩
        obtain ⟨hn1, hn2, hn3, hn4⟩ := hok
        have HQ : Hid (run (if cl = true then 1 else if es = true then 4 else 2) k (l.drop nx) = run s false l) := by show _ = _; rw [← HR.out.1, hn3]
        clear hn3 hn4
        cases cl <;> cases es
        all_goals
          go_wp2_with fail
          go_roundw
          case rel => exact ⟨nx, _, k, by omega, rfl, rfl, rfl, ⟨HQ.out, by unfold St; omega⟩, trivial⟩
          case measure => simp [intOf]; omega
      · have HQ : Hid (run 2 k (l.drop (i + 1)) = run s false l ∧ St 2) := ⟨by rw [← HR.out.1, run4 l i hlt], .inr (.inl rfl)⟩
        go_wp2_with fail
        go_roundw
        case rel => exact ⟨i + 1, 2, k, by omega, by go_num, rfl, rfl, HQ, trivial⟩
        case measure => simp [intOf]; omega
      · go_wp2_with fail
        refine (close_any l bb off cap i hlen hlt _ HB.out).mono ?_
        rintro e w' ⟨nx, cl, es, rfl, hok, rfl⟩
        obtain ⟨hn1, hn2, hn3, hn4⟩ := hok
        have HQ : Hid (run (if cl = true then 32 else if es = true then 16 else 8) k (l.drop nx) = run s false l) := by show _ = _; rw [← HR.out.1, hn4]
        clear hn3 hn4
        cases cl <;> cases es
        all_goals
          go_wp2_with fail
          go_roundw
          case rel => exact ⟨nx, _, k, by omega, rfl, rfl, rfl, ⟨HQ.out, by unfold St; omega⟩, trivial⟩
          case measure => simp [intOf]; omega
      · have HQ : Hid (run 8 k (l.drop (i + 1)) = run s false l ∧ St 8) := ⟨by rw [← HR.out.1, run16 l i hlt], .inr (.inr (.inr (.inl rfl)))⟩
        go_wp2_with fail
        go_roundw
        case rel => exact ⟨i + 1, 8, k, by omega, by go_num, rfl, rfl, HQ, trivial⟩
        case measure => simp [intOf]; omega
      · -- behind a written string
        go_wp2_with fail
        obtain ⟨w0, rfl⟩ : ∃ w0 : World, w0 = wr := ⟨_, rfl⟩
        go_loopw [13] (fun v wr => ∃ j : Nat, i ≤ j ∧ j ≤ l.length ∧ v = .int .i64 (j : Int) ∧ Hid (run 32 k (l.drop j) = run s false l) ∧ wr = w0) (fun v _ => l.length - (intOf v).toNat)
        case atStart => exact ⟨i, by omega, by omega, rfl, HR.out.1, rfl⟩
        case round =>
          obtain ⟨j, hij, hj, rfl, HS, rfl⟩ := hrel
          by_cases hjl : j < l.length
          · have hcell := HB.out j hjl
            obtain ⟨c, hcc⟩ : ∃ c, c = l.getD j 0 := ⟨_, rfl⟩
            rw [← hcc] at hcell
            have hjlz : (j : Int) < (l.length : Int) := by omega
            have hne : ((j : Int) == (l.length : Int)) = false := beq_eq_false_iff_ne.2 (by omega)
            have hrun := HS.out
            rw [run32 l j hjl, ← hcc] at hrun
            have HF : Hid (∀ h' k', stepS 32 c = h' ∧ (k || stepK 32 c) = k' → run h' k' (l.drop (j + 1)) = run s false l) := by
              rintro h' k' ⟨rfl, rfl⟩
              exact hrun
            clear hrun hcc
            rcases (show c = 34 ∨ c = 58 ∨ (¬ c = 34 ∧ ¬ c = 58) from by omega) with h34 | h58 | ⟨h34, h58⟩
            · have HQ : Hid (stepS 32 c = 8 ∧ (k || stepK 32 c) = k) := ⟨by simp [stepS, h34], by simp [stepK, h34]⟩
              have hsp : isSp c = false := by rw [h34]; decide
              subst h34
              go_wp2_with (go_at_call 23; refine (isspace_any _ _).mono ?_; rintro e w' ⟨rfl, rfl⟩)
              go_roundw
              case rel => exact ⟨j + 1, 8, k, by omega, by go_num, rfl, rfl, ⟨HF.out _ _ HQ.out, by unfold St; omega⟩, trivial⟩
              case measure => simp [intOf]; omega
            · have HQ : Hid (stepS 32 c = 1 ∧ (k || stepK 32 c) = true) := ⟨by simp [stepS, h58], by simp [stepK, h58]⟩
              have hsp : isSp c = false := by rw [h58]; decide
              subst h58
              go_wp2_with (go_at_call 23; refine (isspace_any _ _).mono ?_; rintro e w' ⟨rfl, rfl⟩)
              go_roundw
              case rel => exact ⟨j + 1, 1, true, by omega, by go_num, rfl, rfl, ⟨HF.out _ _ HQ.out, by unfold St; omega⟩, trivial⟩
              case measure => simp [intOf]; omega
            · have g34 : (c == 34) = false := by simpa using h34
              have g58 : (c == 58) = false := by simpa using h58
              cases hsp : isSp c with
              | true =>
                have HQ : Hid (stepS 32 c = 32 ∧ (k || stepK 32 c) = k) := ⟨by simp [stepS, h34, h58, hsp], by simp [stepK, g58]⟩
                clear h34 h58
                go_wp2_with (go_at_call 23; refine (isspace_any _ _).mono ?_; rintro e w' ⟨rfl, rfl⟩)
                go_roundw
                case rel => exact ⟨j + 1, by omega, by omega, by go_num, HF.out _ _ HQ.out, trivial⟩
                case measure => simp [intOf]; omega
              | false =>
                have HQ : Hid (stepS 32 c = 1 ∧ (k || stepK 32 c) = k) := ⟨by simp [stepS, h34, h58, hsp], by simp [stepK, g58]⟩
                clear h34 h58
                go_wp2_with (go_at_call 23; refine (isspace_any _ _).mono ?_; rintro e w' ⟨rfl, rfl⟩)
                go_roundw
                case rel => exact ⟨j + 1, 1, k, by omega, by go_num, rfl, rfl, ⟨HF.out _ _ HQ.out, by unfold St; omega⟩, trivial⟩
                case measure => simp [intOf]; omega
          · have hjl' : j = l.length := by omega
            have HJ : Hid (j = l.length) := hjl'
            have hge : (l.length : Int) ≤ (j : Int) := by omega
            have heq : ((j : Int) == (l.length : Int)) = true := beq_iff_eq.2 (by omega)
            clear hjl'
            go_wp2_with fail
            go_roundw
            case rel => exact ⟨j, 32, k, by omega, rfl, rfl, rfl, ⟨HS.out, by unfold St; omega⟩, trivial⟩
            case measure => have := HJ.out; simp [intOf]; omega
    · have hge : (l.length : Int) ≤ (i : Int) := by omega
      have HE : Hid (run s false l = (m, k)) := by show _ = _; rw [← HR.out.1, run_end l i (by omega)]
      go_wp2_with fail
      go_ret2
      exact ⟨ret_two (by rw [HE.out]), rfl⟩
end Go.Proofs.Qxb6602870a
