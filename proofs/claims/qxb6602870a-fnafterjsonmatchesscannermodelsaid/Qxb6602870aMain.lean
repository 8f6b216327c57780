import Derived.Test.Qxb6602870aOne
namespace Go.Proofs.Qxb6602870a
open Go.RowKit

set_option maxRecDepth 100000 in
set_option maxHeartbeats 4000000 in
theorem model_any (at0 : Int) (l : List Int) (hl : ∀ x ∈ l, 0 ≤ x ∧ x ≤ 255) (a : Option Addr) (cap : Nat) (hlen : l.length ≤ 1073741824) (w : World) (hb : Bs .u8 w a l) :
    Calls Try.prog 10 #[.int .u8 at0, .slice a l.length cap] w fun e w' => e = .returned (.tuple #[.int .u8 (comb at0 l 6).1, .bool (comb at0 l 6).2]) ∧ w = w' := by
  have HL : Hid (∀ x ∈ l, 0 ≤ x ∧ x ≤ 255) := hl
  clear hl
  go_enter Try.func10, Try.ntmps10
  go_wp2_with fail
  go_loopw [6, 7, 8] (fun ev kv nv wr => ∃ (n : Nat) (E : Int) (K : Bool), n ≤ 6 ∧ Hid (comb at0 l n = (E, K)) ∧ nv = .int .i64 (n : Int) ∧ ev = .int .u8 E ∧ kv = .bool K ∧ wr = w) (fun _ _ nv _ => 6 - (intOf nv).toNat)
  case atStart => exact ⟨0, 0, false, by omega, rfl, rfl, rfl, rfl, rfl⟩
  case round =>
    obtain ⟨n, E, K, hn, HC, rfl, rfl, rfl, rfl⟩ := hrel
    by_cases hn6 : n < 6
    · obtain ⟨b, hbp⟩ : ∃ b, b = pw n := ⟨_, rfl⟩
      have HBP : Hid (b = pw n) := hbp
      have hst : St b := by rw [hbp]; exact pw_cases hn6
      have HST : Hid (St b) := hst
      have hnz : (n : Int) < 6 := by omega
      have hsh : (n = 0 ∧ b = 1) ∨ (n = 1 ∧ b = 2) ∨ (n = 2 ∧ b = 4) ∨ (n = 3 ∧ b = 8) ∨ (n = 4 ∧ b = 16) ∨ (n = 5 ∧ b = 32) := by
        subst hbp
        unfold pw
        rcases n with _ | _ | _ | _ | _ | _ | n
        all_goals first | omega | simp
      clear hbp hst
      cases hbit : (bits BinOp.and IntKind.u8 at0 b == 0) with
      | true =>
        have HN : Hid (comb at0 l (n + 1) = (E, K)) := by show _ = _; rw [comb_skip (by rw [← HBP.out]; exact hbit)]; exact HC.out
        rcases hsh with ⟨rfl, rfl⟩ | ⟨rfl, rfl⟩ | ⟨rfl, rfl⟩ | ⟨rfl, rfl⟩ | ⟨rfl, rfl⟩ | ⟨rfl, rfl⟩
        all_goals
          go_wp2_with fail
          go_roundw
          case rel => exact ⟨_ + 1, E, K, by omega, HN, by go_num, rfl, rfl, trivial⟩
          case measure => simp [intOf]
      | false =>
        have HN : Hid (comb at0 l (n + 1) = (bits BinOp.or IntKind.u8 E (run b false l).1, K || (run b false l).2)) := by
          show _ = _
          rw [comb_take (by rw [← HBP.out]; exact hbit), HC.out, ← HBP.out]
        cases hk2 : (run b false l).2 with
        | true =>
          have HN2 : Hid (comb at0 l (n + 1) = (bits BinOp.or IntKind.u8 E (run b false l).1, true)) := by show _ = _; rw [HN.out, hk2, Bool.or_true]
          rcases hsh with ⟨rfl, rfl⟩ | ⟨rfl, rfl⟩ | ⟨rfl, rfl⟩ | ⟨rfl, rfl⟩ | ⟨rfl, rfl⟩ | ⟨rfl, rfl⟩
          all_goals
            go_wp2_with (go_at_call 17; refine (one_any _ HST.out l HL.out _ _ hlen _ hb).mono ?_; rintro e w' ⟨rfl, rfl⟩)
            go_roundw
            case rel => exact ⟨_ + 1, _, true, by omega, HN2, by go_num, rfl, rfl, trivial⟩
            case measure => simp [intOf]
        | false =>
          have HN2 : Hid (comb at0 l (n + 1) = (bits BinOp.or IntKind.u8 E (run b false l).1, K)) := by show _ = _; rw [HN.out, hk2, Bool.or_false]
          rcases hsh with ⟨rfl, rfl⟩ | ⟨rfl, rfl⟩ | ⟨rfl, rfl⟩ | ⟨rfl, rfl⟩ | ⟨rfl, rfl⟩ | ⟨rfl, rfl⟩
          all_goals
            go_wp2_with (go_at_call 17; refine (one_any _ HST.out l HL.out _ _ hlen _ hb).mono ?_; rintro e w' ⟨rfl, rfl⟩)
            go_roundw
            case rel => exact ⟨_ + 1, _, K, by omega, HN2, by go_num, rfl, rfl, trivial⟩
            case measure => simp [intOf]
    · obtain rfl : n = 6 := by omega
      go_wp2_with fail
      go_ret2
      exact ⟨ret_two HC.out.symm, rfl⟩

theorem zzaj_any (at0 : Int) (l : List Int) (hl : ∀ x ∈ l, 0 ≤ x ∧ x ≤ 255) (a : Option Addr) (cap : Nat) (hlen : l.length ≤ 1073741824) (w : World) (hb : Bs .u8 w a l) :
    Calls Try.prog 9 #[.int .u8 at0, .slice a l.length cap] w fun e w' => e = .returned (.tuple #[.int .u8 (comb at0 l 6).1, .bool (comb at0 l 6).2]) ∧ w = w' := by
  have HL : Hid (∀ x ∈ l, 0 ≤ x ∧ x ≤ 255) := hl
  clear hl
  go_enter Try.func9, Try.ntmps9
  go_wp2_with (go_at_call 16; refine (aj_any at0 l HL.out _ _ hlen _ hb).mono ?_; rintro e w' ⟨rfl, rfl⟩)
  go_ret2
  exact ⟨rfl, rfl⟩

theorem zzb_yes (x : Int) (a0 : Option Addr) (n0 c0 : Nat) (w : World) (h : n0 ≤ 1048576) :
    Calls Try.prog 7 #[.int .u8 x, .slice a0 n0 c0] w fun e w' => e = .returned (.bool true) ∧ w = w' := by
  go_enter Try.func7, Try.ntmps7
  go_wp2
  go_ret
  exact ⟨rfl, rfl⟩

theorem ajm_out (x : Int) (a0 : Option Addr) (n0 c0 : Nat) (w : World) (h0 : n0 ≤ maxLen) (h : ¬ n0 ≤ 1048576) :
    Calls Try.prog 3 #[.int .u8 x, .slice a0 n0 c0] w fun e w' => e = .returned (.bool true) ∧ Below w.heap.size w w' := by
  unfold maxLen at h0
  go_enter Try.func3, Try.ntmps3
  go_wp2
  go_ret
  exact ⟨rfl, Below.refl _ _⟩

set_option maxHeartbeats 1000000 in
theorem ajm_in (at0 : Int) (l : List Int) (hl : ∀ x ∈ l, 0 ≤ x ∧ x ≤ 255) (a : Option Addr) (cap : Nat) (w : World) (hlen : l.length ≤ 1048576) (hb : Bs .u8 w a l) (e0 : a = none → l = []) :
    Calls Try.prog 3 #[.int .u8 at0, .slice a l.length cap] w fun e w' => e = .returned (.bool true) ∧ Below w.heap.size w w' := by
  have H : Hid ((∀ x ∈ l, 0 ≤ x ∧ x ≤ 255) ∧ (a = none → l = [])) := ⟨hl, e0⟩
  clear hl e0
  go_enter Try.func3, Try.ntmps3
  go_wp2_with (go_at_call 7; refine (zzb_yes _ _ _ _ _ hlen).mono ?_; rintro e w' ⟨rfl, rfl⟩)
  refine (clone_any l _ _ (by omega) _ hb H.out.2).mono ?_
  rintro e w1 ⟨a', c', rfl, hb', bel, _⟩
  go_wp2_with fail
  refine (zzaj_any at0 l H.out.1 _ _ (by omega) _ hb').mono ?_
  rintro e w2 ⟨rfl, rfl⟩
  go_wp2_with fail
  refine (model_any at0 l H.out.1 _ _ (by omega) _ hb').mono ?_
  rintro e w2 ⟨rfl, rfl⟩
  go_wp2_with fail
  go_ret
  exact ⟨rfl, bel⟩
end Go.Proofs.Qxb6602870a
