import Derived.Test.Qxb6601854aBase
namespace Go.Proofs.Qxb6601854a
open Go.RowKit

/-- A slice's value leads to these bytes. -/
def Bs (w : World) (a : Option Addr) (l : List Int) : Prop :=
  l = [] ∨ ∃ b off, a = some ⟨b, off, none⟩ ∧ ∀ i, i < l.length → w.cell? ⟨b, off + i, none⟩ = some (.int .u8 (l.getD i 0))

theorem skip_nil (a : Option Addr) (cap : Nat) (i : Int) (h0 : 0 ≤ i) (h1 : i ≤ 1099511627776) (w : World) :
    Calls Try.prog 21 #[.slice a 0 cap, .int .i64 i] w fun e w' => e = .returned (.int .i64 i) ∧ ∃ n, w' = w.drewN n := by
  have hd : ¬ i < 0 := by omega
  go_enter Try.func21, Try.ntmps21
  go_wp2_with fail
  refine wp_loop_rounds 1 ?_
  rw [rounds_succ]
  go_wp2_with fail
  go_ret
  exact ⟨rfl, 0, rfl⟩

set_option maxHeartbeats 400000 in
theorem skip_some (l : List Int) (hl : ∀ x ∈ l, 0 ≤ x ∧ x ≤ 255) (b off cap : Nat) (hlen : l.length ≤ 1099511627776) (i : Int) (h0 : 0 ≤ i) (h1 : i ≤ 1099511627776) (w : World)
    (hc : ∀ i, i < l.length → w.cell? ⟨b, off + i, none⟩ = some (.int .u8 (l.getD i 0))) :
    Calls Try.prog 21 #[.slice (some ⟨b, off, none⟩) l.length cap, .int .i64 i] w fun e w' => e = .returned (.int .i64 (skipZ l i)) ∧ ∃ n, w' = w.drewN n := by
  obtain ⟨i0, rfl⟩ : ∃ i0 : Nat, i = i0 := ⟨i.toNat, by omega⟩
  go_enter Try.func21, Try.ntmps21
  go_wp2_with fail
  go_loopw [1] (fun v wr => ∃ k : Nat, k ≤ 1099511627776 ∧ v = .int .i64 k ∧ Hid (skipN l k = skipN l i0) ∧ ∃ n, wr = w.drewN n) (fun v _ => l.length - (intOf v).toNat)
  case atStart => exact ⟨i0, by omega, rfl, rfl, 0, rfl⟩
  case round =>
    obtain ⟨k, hk, rfl, HS, n, rfl⟩ := hrel
    by_cases hlt : k < l.length
    · obtain ⟨c, hcc⟩ : ∃ c, c = l.getD k 0 := ⟨_, rfl⟩
      have hcell := hc k hlt
      have hbd := getD_mem_bd hl k hlt
      rw [← hcc] at hcell hbd
      obtain ⟨hb0, hb1⟩ := hbd
      have HC : Hid (c = l.getD k 0) := hcc
      clear hcc hc
      cases hsp : isSp c with
      | true =>
        go_wp2_with (go_at_call 20; refine (cr_sp _ _ hb0 hb1).mono ?_; rintro e w' ⟨rfl, m, rfl⟩)
        go_roundw
        case rel => exact ⟨k + 1, by omega, by go_num, (skipN_step hlt (HC.out ▸ hsp)).symm.trans HS.out, n + m, rfl⟩
        case measure => simp [intOf]; omega
      | false =>
        go_wp2_with (go_at_call 20; refine (cr_sp _ _ hb0 hb1).mono ?_; rintro e w' ⟨rfl, m, rfl⟩)
        go_ret
        refine ⟨?_, n + m, rfl⟩
        have := skipN_no hlt (HC.out ▸ hsp)
        have h2 := HS.out
        rw [this] at h2
        simp [skipZ, ← h2]
    · have hge : (l.length : Int) ≤ k := by omega
      go_wp2_with fail
      go_ret
      refine ⟨?_, n, rfl⟩
      have := skipN_end (l := l) (i := k) (by omega)
      have h2 := HS.out
      rw [this] at h2
      simp [skipZ, ← h2]

theorem skip_any (l : List Int) (hl : ∀ x ∈ l, 0 ≤ x ∧ x ≤ 255) (a : Option Addr) (cap : Nat) (hlen : l.length ≤ 1099511627776) (i : Int) (h0 : 0 ≤ i) (h1 : i ≤ 1099511627776) (w : World) (hb : Bs w a l) :
    Calls Try.prog 21 #[.slice a l.length cap, .int .i64 i] w fun e w' => e = .returned (.int .i64 (skipZ l i)) ∧ ∃ n, w' = w.drewN n := by
  rcases hb with rfl | ⟨b, off, rfl, hc⟩
  · have e : skipZ [] i = i := by unfold skipZ; rw [skipN_end (by simp)]; omega
    rw [e]
    exact skip_nil a cap i h0 h1 w
  · exact skip_some l hl b off cap hlen i h0 h1 w hc

theorem Bs.drewN {w : World} {a : Option Addr} {l : List Int} (h : Bs w a l) (n : Nat) : Bs (w.drewN n) a l := by
  rcases h with h | ⟨b, off, h, hc⟩
  · exact .inl h
  · exact .inr ⟨b, off, h, fun i hi => by simpa using hc i hi⟩

set_option maxHeartbeats 400000 in
theorem vs_any (l : List Int) (hl : ∀ x ∈ l, 0 ≤ x ∧ x ≤ 255) (a : Option Addr) (cap : Nat) (hlen : l.length ≤ 1073741824) (o : Nat) (h1 : o ≤ 2147483648) (w : World) (hb : Bs w a l) :
    Calls Try.prog 19 #[.slice a l.length cap, .int .i64 (o : Int)] w fun e w' => e = .returned (.int .i64 (vstart l o : Int)) ∧ ∃ n, w' = w.drewN n := by
  by_cases hlt : skipN l o < l.length
  · have hne : l ≠ [] := by rintro rfl; simp at hlt
    obtain ⟨b, off, rfl, hc⟩ := hb.resolve_left hne
    obtain ⟨k, hk⟩ : ∃ k, k = skipN l o := ⟨_, rfl⟩
    rw [← hk] at hlt
    obtain ⟨c, hcc⟩ : ∃ c, c = l.getD k 0 := ⟨_, rfl⟩
    have hcell := hc k hlt
    rw [← hcc] at hcell
    have HC : Hid (c = l.getD k 0) := hcc
    have HK : Hid (k = skipN l o) := hk
    have hz : skipZ l (o : Int) = (k : Int) := by unfold skipZ; simp [hk]
    have HB : Hid (∀ i, i < l.length → w.cell? ⟨b, off + i, none⟩ = some (.int .u8 (l.getD i 0))) := hc
    clear hcc hk hc hb
    have hkl : (k : Int) < (l.length : Int) := by omega
    cases hsep : isSep c with
    | true =>
      have hv : vstart l o = skipN l (k + 1) := by
        unfold vstart
        rw [if_pos]
        · rw [← HK.out]
        · rw [← HK.out, ← HC.out]; exact ⟨hlt, hsep⟩
      rw [hv]
      have hz2 : skipZ l ((k : Int) + 1) = (skipN l (k + 1) : Int) := by unfold skipZ; rw [show ((k : Int) + 1).toNat = k + 1 from by omega]
      have hcs : c = 58 ∨ (c == 58) = false ∧ c = 44 := by
        unfold isSep at hsep; simp at hsep
        rcases hsep with h | h
        · exact .inl h
        · exact .inr ⟨by subst h; decide, h⟩
      rcases hcs with rfl | ⟨h58, rfl⟩
      all_goals
        go_enter Try.func19, Try.ntmps19
        go_wp2_with fail
        refine (skip_any l hl _ cap (by omega) _ (by omega) (by omega) _ (.inr ⟨b, off, rfl, HB.out⟩)).mono ?_
        rintro e w1 ⟨rfl, n, rfl⟩
        go_wp2_with fail
        refine (skip_any l hl _ cap (by omega) _ (by omega) (by omega) _ (.inr ⟨b, off, rfl, by simpa using HB.out⟩)).mono ?_
        rintro e w1 ⟨rfl, m, rfl⟩
        go_wp2_with fail
        go_ret
        exact ⟨rfl, n + m, by simp⟩
    | false =>
      have hv : vstart l o = k := by
        unfold vstart
        rw [if_neg]
        · exact HK.out.symm
        · rw [← HK.out, ← HC.out]; rintro ⟨_, h⟩; rw [hsep] at h; cases h
      rw [hv]
      have h58 : (c == 58) = false := by unfold isSep at hsep; simp at hsep; simpa using hsep.1
      have h44 : (c == 44) = false := by unfold isSep at hsep; simp at hsep; simpa using hsep.2
      go_enter Try.func19, Try.ntmps19
      go_wp2_with fail
      refine (skip_any l hl _ cap (by omega) _ (by omega) (by omega) _ (.inr ⟨b, off, rfl, HB.out⟩)).mono ?_
      rintro e w1 ⟨rfl, n, rfl⟩
      go_wp2_with fail
      go_ret
      exact ⟨rfl, n, rfl⟩
  · have hv : vstart l o = skipN l o := by unfold vstart; rw [if_neg (by omega)]
    rw [hv]
    have hge : (l.length : Int) ≤ skipZ l (o : Int) := by unfold skipZ; simp; omega
    have hz : (skipN l o : Int) = skipZ l (o : Int) := by unfold skipZ; simp
    rw [hz]
    clear hz hv
    go_enter Try.func19, Try.ntmps19
    go_wp2_with fail
    refine (skip_any l hl a cap (by omega) _ (by omega) (by omega) _ hb).mono ?_
    rintro e w1 ⟨rfl, n, rfl⟩
    go_wp2_with fail
    go_ret
    exact ⟨rfl, n, rfl⟩

theorem zzvs_any (l : List Int) (hl : ∀ x ∈ l, 0 ≤ x ∧ x ≤ 255) (a : Option Addr) (cap : Nat) (hlen : l.length ≤ 1073741824) (o : Nat) (h1 : o ≤ 2147483648) (w : World) (hb : Bs w a l) :
    Calls Try.prog 14 #[.slice a l.length cap, .int .i64 (o : Int)] w fun e w' => e = .returned (.int .i64 (vstart l o : Int)) ∧ ∃ n, w' = w.drewN n := by
  go_enter Try.func14, Try.ntmps14
  go_wp2_with fail
  refine (vs_any l hl a cap hlen o h1 _ hb).mono ?_
  rintro e w1 ⟨rfl, n, rfl⟩
  go_wp2_with fail
  go_ret
  exact ⟨rfl, n, rfl⟩
end Go.Proofs.Qxb6601854a
