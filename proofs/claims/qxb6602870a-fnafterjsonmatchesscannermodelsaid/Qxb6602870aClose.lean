import Derived.Test.Qxb6602870aAfter
namespace Go.Proofs.Qxb6602870a
open Go.RowKit

theorem ret_cl {a b : Int} {k m : Bool} (h : a = b) : Ending.returned (.tuple #[.int .i64 a, .bool k, .bool m]) = .returned (.tuple #[.int .i64 b, .bool k, .bool m]) := by rw [h]

def Same (l : List Int) (i j : Nat) : Prop := (∀ k, run 2 k (l.drop i) = run 2 k (l.drop j)) ∧ (∀ k, run 8 k (l.drop i) = run 8 k (l.drop j))
def CloseOK (l : List Int) (i nx : Nat) (cl es : Bool) : Prop :=
  nx ≤ l.length ∧ i < nx ∧ (∀ k, run 2 k (l.drop i) = run (if cl = true then 1 else if es = true then 4 else 2) k (l.drop nx)) ∧ (∀ k, run 8 k (l.drop i) = run (if cl = true then 32 else if es = true then 16 else 8) k (l.drop nx))

theorem run2 (l : List Int) (j : Nat) (hj : j < l.length) (k : Bool) : run 2 k (l.drop j) = run (stepS 2 (l.getD j 0)) k (l.drop (j + 1)) := by
  rw [run_at l j hj]; simp [stepK]
theorem run8 (l : List Int) (j : Nat) (hj : j < l.length) (k : Bool) : run 8 k (l.drop j) = run (stepS 8 (l.getD j 0)) k (l.drop (j + 1)) := by
  rw [run_at l j hj]; simp [stepK]
theorem run4 (l : List Int) (j : Nat) (hj : j < l.length) (k : Bool) : run 4 k (l.drop j) = run 2 k (l.drop (j + 1)) := by
  rw [run_at l j hj]; simp [stepK, stepS]
theorem run16 (l : List Int) (j : Nat) (hj : j < l.length) (k : Bool) : run 16 k (l.drop j) = run 8 k (l.drop (j + 1)) := by
  rw [run_at l j hj]; simp [stepK, stepS]

theorem same_on {l : List Int} {i j : Nat} (h : Same l i j) (hj : j < l.length) (h1 : l.getD j 0 ≠ 92) (h2 : l.getD j 0 ≠ 34) : Same l i (j + 1) := by
  refine ⟨fun k => ?_, fun k => ?_⟩
  · rw [h.1, run2 l j hj, show stepS 2 (l.getD j 0) = 2 from by unfold stepS; simp only [h1, h2, if_false]; rfl]
  · rw [h.2, run8 l j hj, show stepS 8 (l.getD j 0) = 8 from by unfold stepS; simp only [h1, h2, if_false]; rfl]
theorem same_esc {l : List Int} {i j : Nat} (h : Same l i j) (hj : j + 1 < l.length) (h1 : l.getD j 0 = 92) : Same l i (j + 1 + 1) := by
  refine ⟨fun k => ?_, fun k => ?_⟩
  · rw [h.1, run2 l j (by omega), h1, show stepS 2 92 = 4 from by decide, run4 l (j + 1) hj]
  · rw [h.2, run8 l j (by omega), h1, show stepS 8 92 = 16 from by decide, run16 l (j + 1) hj]
theorem close_q {l : List Int} {i j : Nat} (h : Same l i j) (hij : i ≤ j) (hj : j < l.length) (h1 : l.getD j 0 = 34) : CloseOK l i (j + 1) true false := by
  refine ⟨by omega, by omega, fun k => ?_, fun k => ?_⟩
  · rw [h.1, run2 l j (by omega), h1, show stepS 2 34 = 1 from by decide]; rfl
  · rw [h.2, run8 l j (by omega), h1, show stepS 8 34 = 32 from by decide]; rfl
theorem close_esc {l : List Int} {i j : Nat} (h : Same l i j) (hij : i ≤ j) (hj : j + 1 = l.length) (h1 : l.getD j 0 = 92) : CloseOK l i l.length false true := by
  rw [← hj]
  refine ⟨by omega, by omega, fun k => ?_, fun k => ?_⟩
  · rw [h.1, run2 l j (by omega), h1, show stepS 2 92 = 4 from by decide]; rfl
  · rw [h.2, run8 l j (by omega), h1, show stepS 8 92 = 16 from by decide]; rfl
theorem close_no {l : List Int} {i : Nat} (h : Same l i l.length) (hi : i < l.length) : CloseOK l i l.length false false :=
  ⟨Nat.le_refl _, hi, fun k => by rw [h.1]; rfl, fun k => by rw [h.2]; rfl⟩

set_option maxHeartbeats 1000000 in
theorem close_any (l : List Int) (b off cap i : Nat) (hlen : l.length ≤ 1073741824) (hi : i < l.length) (w : World)
    (hc : ∀ i, i < l.length → w.cell? ⟨b, off + i, none⟩ = some (.int .u8 (l.getD i 0))) :
    Calls Try.prog 21 #[.slice (some ⟨b, off, none⟩) l.length cap, .int .i64 (i : Int)] w fun e w' => ∃ (nx : Nat) (cl es : Bool), e = .returned (.tuple #[.int .i64 (nx : Int), .bool cl, .bool es]) ∧ CloseOK l i nx cl es ∧ w = w' := by
  have HB : Hid (∀ i, i < l.length → w.cell? ⟨b, off + i, none⟩ = some (.int .u8 (l.getD i 0))) := hc
  clear hc
  go_enter Try.func21, Try.ntmps21
  go_wp2_with fail
  go_loopw [7] (fun v wr => ∃ j : Nat, i ≤ j ∧ j ≤ l.length ∧ v = .int .i64 (j : Int) ∧ Hid (Same l i j) ∧ wr = w) (fun v _ => l.length - (intOf v).toNat)
  case atStart => exact ⟨i, by omega, by omega, rfl, ⟨fun _ => rfl, fun _ => rfl⟩, rfl⟩
  case round =>
    obtain ⟨j, hij, hj, rfl, HS, rfl⟩ := hrel
    by_cases hlt : j < l.length
    · have hcell := HB.out j hlt
      obtain ⟨c, hcc⟩ : ∃ c, c = l.getD j 0 := ⟨_, rfl⟩
      rw [← hcc] at hcell
      have HC : Hid (l.getD j 0 = c) := hcc.symm
      have hjl : (j : Int) < (l.length : Int) := by omega
      clear hcc
      rcases (show c = 92 ∨ c = 34 ∨ (¬ c = 92 ∧ ¬ c = 34) from by omega) with rfl | rfl | ⟨h92, h34⟩
      · by_cases hend : j + 1 < l.length
        · have hend' : (j : Int) + 1 < (l.length : Int) := by omega
          go_wp2_with fail
          go_roundw
          case rel => exact ⟨j + 1 + 1, by omega, by omega, by go_num, same_esc HS.out hend HC.out, trivial⟩
          case measure => simp [intOf]; omega
        · have hend' : (l.length : Int) ≤ (j : Int) + 1 := by omega
          go_wp2_with fail
          go_ret3
          exact ⟨_, _, _, rfl, close_esc HS.out hij (by omega) HC.out, rfl⟩
      · go_wp2_with fail
        go_ret3
        exact ⟨j + 1, _, _, ret_cl (by omega), close_q HS.out hij hlt HC.out, rfl⟩
      · have HN : Hid (l.getD j 0 ≠ 92 ∧ l.getD j 0 ≠ 34) := by show _ ∧ _; rw [HC.out]; exact ⟨h92, h34⟩
        have g34 : (c == 34) = false := by simpa using h34
        have g92 : (c == 92) = false := by simpa using h92
        clear h34 h92
        go_wp2_with fail
        go_roundw
        case rel => exact ⟨j + 1, by omega, by omega, by go_num, same_on HS.out hlt HN.out.1 HN.out.2, trivial⟩
        case measure => simp [intOf]; omega
    · obtain rfl : j = l.length := by omega
      go_wp2_with fail
      go_ret3
      exact ⟨_, _, _, rfl, close_no HS.out hi, rfl⟩

/-- The next quote, or none. -/
def NextOK (l : List Int) (i : Nat) (q : Int) : Prop :=
  (q = -1 ∧ ∀ k, run 1 k (l.drop i) = (1, k)) ∨ ∃ n : Nat, q = (n : Int) ∧ i ≤ n ∧ n < l.length ∧ ∀ k, run 1 k (l.drop i) = run 2 k (l.drop (n + 1))

theorem run1 (l : List Int) (j : Nat) (hj : j < l.length) (k : Bool) : run 1 k (l.drop j) = run (stepS 1 (l.getD j 0)) k (l.drop (j + 1)) := by
  rw [run_at l j hj]; simp [stepK]

set_option maxHeartbeats 1000000 in
theorem index_any (l : List Int) (b off cap i : Nat) (hlen : l.length ≤ 1073741824) (hi : i ≤ l.length) (w : World)
    (hc : ∀ i, i < l.length → w.cell? ⟨b, off + i, none⟩ = some (.int .u8 (l.getD i 0))) :
    Calls Try.prog 22 #[.slice (some ⟨b, off, none⟩) l.length cap, .int .i64 (i : Int), .int .u8 34] w fun e w' => ∃ q : Int, e = .returned (.int .i64 q) ∧ NextOK l i q ∧ w = w' := by
  have HB : Hid (∀ i, i < l.length → w.cell? ⟨b, off + i, none⟩ = some (.int .u8 (l.getD i 0))) := hc
  clear hc
  go_enter Try.func22, Try.ntmps22
  go_wp2_with fail
  go_loopw [7] (fun v wr => ∃ j : Nat, i ≤ j ∧ j ≤ l.length ∧ v = .int .i64 (j : Int) ∧ Hid (∀ k, run 1 k (l.drop i) = run 1 k (l.drop j)) ∧ wr = w) (fun v _ => l.length - (intOf v).toNat)
  case atStart => exact ⟨i, by omega, by omega, rfl, fun _ => rfl, rfl⟩
  case round =>
    obtain ⟨j, hij, hj, rfl, HS, rfl⟩ := hrel
    by_cases hlt : j < l.length
    · have hcell := HB.out j hlt
      obtain ⟨c, hcc⟩ : ∃ c, c = l.getD j 0 := ⟨_, rfl⟩
      rw [← hcc] at hcell
      have HC : Hid (l.getD j 0 = c) := hcc.symm
      have hjl : (j : Int) < (l.length : Int) := by omega
      clear hcc
      by_cases h34 : c = 34
      · subst h34
        go_wp2_with fail
        go_ret
        refine ⟨_, rfl, .inr ⟨j, rfl, hij, hlt, fun k => ?_⟩, rfl⟩
        rw [HS.out, run1 l j hlt, HC.out]; rfl
      · have HN : Hid (stepS 1 (l.getD j 0) = 1) := by show _ = _; rw [HC.out]; simp [stepS, h34]
        have g34 : (c == 34) = false := by simpa using h34
        clear h34
        go_wp2_with fail
        go_roundw
        case rel => exact ⟨j + 1, by omega, by omega, by go_num, fun k => by rw [HS.out, run1 l j hlt, HN.out], trivial⟩
        case measure => simp [intOf]; omega
    · obtain rfl : j = l.length := by omega
      go_wp2_with fail
      go_ret
      refine ⟨_, rfl, .inl ⟨rfl, fun k => ?_⟩, rfl⟩
      rw [HS.out, run_end l _ (Nat.le_refl _)]
end Go.Proofs.Qxb6602870a
