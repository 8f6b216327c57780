import Derived.Test.Qxb6602322aDec
import Derived.Test.Qxb6602322aCmp
namespace Go.Proofs.Qxb6602322a
open Go.RowKit

theorem wrap_low (x : Int) (h0 : 0 ≤ x) (h : x < 48) : IntKind.u8.wrap (x - 48) = x + 208 := by
  rw [IntKind.wrap_u8]; omega

theorem ret_three {v : Int} {a b : Int} (h : a = b) : Ending.returned (.tuple #[.int .u64 v, .int .i64 a, .bool true]) = .returned (.tuple #[.int .u64 v, .int .i64 b, .bool true]) := by rw [h]

set_option maxHeartbeats 1000000 in
theorem ru_core (D : List Int) (b off cap i L : Nat) (S : List Int) (x : Int) (v : Nat) (hlen : D.length ≤ 1073741824) (hcap : D.length ≤ cap) (w : World)
    (hc : ∀ i, i < D.length → w.cell? ⟨b, off + i, none⟩ = some (.int .u8 (D.getD i 0)))
    (hS : S.length = L) (hL1 : 1 ≤ L) (hL : L ≤ 20) (hdig : ∀ c ∈ S, isDg c) (hval : valD S = (v : Int)) (hv : v < 18446744073709551616) (hget : ∀ j, j < L → i + j < D.length ∧ D.getD (i + j) 0 = S.getD j 0)
    (hx : i + L < D.length ∧ D.getD (i + L) 0 = x) (hx0 : 0 ≤ x) (hx1 : x ≤ 255) (hnd : ¬ isDg x) (hlead : S.getD 0 0 ≠ 48 ∨ L = 1)  :
    Calls Try.prog 29 #[.slice (some ⟨b, off, none⟩) D.length cap, .int .i64 (i : Int)] w fun e w' => e = .returned (.tuple #[.int .u64 (v : Int), .int .i64 ((i + L : Nat) : Int), .bool true]) ∧ w = w' := by
  have HB : Hid (∀ i, i < D.length → w.cell? ⟨b, off + i, none⟩ = some (.int .u8 (D.getD i 0))) := hc
  have HS : Hid (S.length = L ∧ (∀ c ∈ S, isDg c) ∧ valD S = (v : Int) ∧ (∀ j, j < L → i + j < D.length ∧ D.getD (i + j) 0 = S.getD j 0)) := ⟨hS, hdig, hval, hget⟩
  have HX : Hid (i + L < D.length ∧ D.getD (i + L) 0 = x) := hx
  have hiL : i + L < D.length := hx.1
  have HLD : Hid (S.getD 0 0 ≠ 48 ∨ L = 1) := hlead
  have HND : Hid (¬ isDg x) := hnd
  clear hc hS hdig hval hget hx hlead hnd
  go_enter Try.func29, Try.ntmps29
  go_wp2_with fail
  go_loopw [1, 8] (fun iv zv wr => ∃ (j : Nat) (z : Int), j ≤ L ∧ iv = .int .i64 ((i + j : Nat) : Int) ∧ zv = .int .u64 z ∧ 0 ≤ z ∧ z ≤ v ∧ Hid (z = valD (S.take j)) ∧ wr = w) (fun iv _ _ => D.length - (intOf iv).toNat)
  case atStart => exact ⟨0, 0, by omega, by go_num, rfl, by omega, by omega, rfl, rfl⟩
  case round =>
    obtain ⟨j, z, hj, rfl, rfl, hz0, hz1, HZ, rfl⟩ := hrel
    by_cases hlt : j < L
    · obtain ⟨hi1, hi2⟩ := HS.out.2.2.2 j hlt
      have hcell := HB.out (i + j) hi1
      rw [hi2] at hcell
      obtain ⟨c, hcc⟩ : ∃ c, c = S.getD j 0 := ⟨_, rfl⟩
      rw [← hcc] at hcell
      have HC : Hid (c = S.getD j 0) := hcc
      have hd : 48 ≤ c ∧ c ≤ 57 := by
        rw [hcc]
        have e : S.getD j 0 = S[j]'(by have := HS.out.1; omega) := by simp [List.getD, show j < S.length from by have := HS.out.1; omega]
        rw [e]; exact HS.out.2.1 _ (List.getElem_mem _)
      obtain ⟨hd0, hd1⟩ := hd
      have hnext : valD (S.take (j + 1)) = z * 10 + (c - 48) := by
        rw [take_snoc _ _ (by have := HS.out.1; omega), valD_snoc, ← HZ.out, ← hcc]
      have hle := (valD_take S HS.out.2.1 (j + 1)).2
      rw [hnext, HS.out.2.2.1] at hle
      have HNX : Hid (z * 10 + (c - 48) = valD (S.take (j + 1))) := hnext.symm
      clear hcc hnext hi2
      have hi3 : ((i + j : Nat) : Int) < (D.length : Int) := by omega
      have hb2 : z * 10 + (c - 48) ≤ 18446744073709551615 := by omega
      go_wp2_with fail
      go_roundw
      case rel => exact ⟨j + 1, _, by omega, by go_num, rfl, by omega, hle, HNX, trivial⟩
      case measure => simp [intOf]; omega
    · obtain rfl : j = L := by omega
      have hcell := HB.out (i + j) HX.out.1
      rw [HX.out.2] at hcell
      have hi3 : ((i + j : Nat) : Int) < (D.length : Int) := by omega
      have hi4 : (i : Int) + (j : Int) < (D.length : Int) := by omega
      have hzv : z = v := by
        have := HZ.out
        rw [List.take_of_length_le (by rw [HS.out.1]; exact Nat.le_refl _), HS.out.2.2.1] at this
        exact this
      subst hzv
      obtain ⟨hi1, hi2⟩ := HS.out.2.2.2 0 (by omega)
      have hcell0 := HB.out (i + 0) hi1
      rw [hi2] at hcell0
      obtain ⟨c0, hc0⟩ : ∃ c0, c0 = S.getD 0 0 := ⟨_, rfl⟩
      rw [← hc0, Nat.add_zero] at hcell0
      have hci : ¬ cap = i := by omega
      have hj0 : ((j : Int) == 0) = false := beq_eq_false_iff_ne.2 (by omega)
      have hld : (c0 == 48) = false ∨ (c0 == 48) = true ∧ j ≤ 1 := by
        by_cases h : c0 = 48
        · refine .inr ⟨by simpa using h, ?_⟩
          rcases HLD.out with h2 | h2
          · rw [← hc0] at h2; exact absurd h h2
          · omega
        · exact .inl (by simpa using h)
      have HC0 : Hid (c0 = S.getD 0 0) := hc0
      clear hc0 hi2
      have hxx : 58 ≤ x ∨ x < 48 := by have := HND.out; unfold isDg at this; omega
      have hw48 : x < 48 → IntKind.u8.wrap (x - 48) = x + 208 := wrap_low x hx0
      by_cases hj20 : j < 20
      · have hj20' : ((j : Int) == 20) = false := beq_eq_false_iff_ne.2 (by omega)
        rcases hxx with hxx | hxx
        · clear hw48
          rcases hld with hld | ⟨hld, hj1⟩
          all_goals
            go_wp2_with fail
            go_ret3
            exact ⟨ret_three (by omega), rfl⟩
        · have hw := hw48 hxx
          clear hw48
          rcases hld with hld | ⟨hld, hj1⟩
          all_goals
            go_wp2_with fail
            go_ret3
            exact ⟨ret_three (by omega), rfl⟩
      · have hj20' : ((j : Int) == 20) = true := beq_iff_eq.2 (by omega)
        have hld' : (c0 == 48) = false := by
          rcases hld with h | ⟨_, h⟩
          · exact h
          · omega
        clear hld
        have hconv := run_convert_bytes_arg (P := Try.prog) wr 22 5 Try.underlying22 Try.underlying5 b (off + i) j (cap - i) S HS.out.1 (fun t ht => by
          obtain ⟨h1, h2⟩ := HS.out.2.2.2 t ht
          have := HB.out (i + t) h1
          rw [h2] at this
          rw [← this, Nat.add_assoc]) 9 Try.underlying9
        have hlex := cmp20 S (by rw [HS.out.1]; omega) HS.out.2.1 (by rw [HS.out.2.2.1]; omega)
        rcases hxx with hxx | hxx
        · clear hw48
          rcases hlex with hlex | hlex
          all_goals
            go_wp2_with fail
            go_ret3
            exact ⟨ret_three (by omega), rfl⟩
        · have hw := hw48 hxx
          clear hw48
          rcases hlex with hlex | hlex
          all_goals
            go_wp2_with fail
            go_ret3
            exact ⟨ret_three (by omega), rfl⟩

theorem ru_any (D : List Int) (b off cap i : Nat) (x : Int) (r : List Int) (v : Nat) (hlen : D.length ≤ 1073741824) (hcap : D.length ≤ cap) (w : World)
    (hc : ∀ i, i < D.length → w.cell? ⟨b, off + i, none⟩ = some (.int .u8 (D.getD i 0)))
    (hdrop : D.drop i = dec v ++ (x :: r)) (hv : v < 18446744073709551616) (hx0 : 0 ≤ x) (hx1 : x ≤ 255) (hnd : ¬ isDg x) :
    Calls Try.prog 29 #[.slice (some ⟨b, off, none⟩) D.length cap, .int .i64 (i : Int)] w fun e w' => e = .returned (.tuple #[.int .u64 (v : Int), .int .i64 ((i + (dec v).length : Nat) : Int), .bool true]) ∧ w = w' := by
  have hl := decF_len 19 v
  have ha := at_cons (at_app hdrop)
  refine ru_core D b off cap i (dec v).length (dec v) x v hlen hcap w hc rfl hl.1 hl.2 (decF_dig 19 v) (decF_val 19 v (by omega)) hv (fun j hj => at_get hdrop j hj) ⟨ha.1, ha.2.1⟩ hx0 hx1 hnd ?_
  by_cases h : 10 ≤ v
  · exact .inl (decF_lead 19 v (by omega) h)
  · right; unfold dec; rw [dec_short 19 v (by omega)]; rfl
end Go.Proofs.Qxb6602322a
