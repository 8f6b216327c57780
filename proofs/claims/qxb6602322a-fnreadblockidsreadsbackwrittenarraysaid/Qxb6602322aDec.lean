import Derived.Test.Qxb6602322aOwn
namespace Go.Proofs.Qxb6602322a
open Go.RowKit

theorem pow_ge {k x : Nat} (h1 : x < 10 ^ (k + 1)) (h2 : 10 ≤ x) : 1 ≤ k := by
  rcases k with _ | k
  · simp at h1; omega
  · omega

theorem decF_down {k x : Nat} (h : 10 ≤ x) (hk : 1 ≤ k) : decF k x = decF (k - 1) (x / 10) ++ [48 + ((x % 10 : Nat) : Int)] := by
  obtain ⟨k', rfl⟩ : ∃ k', k = k' + 1 := ⟨k - 1, by omega⟩
  rw [decF, if_neg (by omega)]; rfl

theorem pow_div {k x : Nat} (h1 : x < 10 ^ (k + 1)) (hk : 1 ≤ k) : x / 10 < 10 ^ (k - 1 + 1) := by
  rw [Nat.sub_add_cancel hk, Nat.div_lt_iff_lt_mul (by omega)]
  rw [Nat.pow_succ] at h1; exact h1

theorem row_put {w : World} {B : Nat} {k : Nat} {S : List Int} (c : Int) (hrow : w.rowIs B 49 20 (fun i => if i ≤ k then .int .u8 0 else .int .u8 (S.getD (i - (k + 1)) 0))) :
    (w.setCell ⟨B, k, none⟩ (.int .u8 c)).rowIs B 49 20 (fun i => if i < k then .int .u8 0 else .int .u8 ((c :: S).getD (i - k) 0)) := by
  refine (hrow.set k _).congr ?_
  intro i hi
  by_cases h : i = k
  · subst h; rw [if_pos rfl, if_neg (by omega), Nat.sub_self]; rfl
  · rw [if_neg h]
    by_cases h2 : i < k
    · rw [if_pos h2, if_pos (by omega)]
    · rw [if_neg h2, if_neg (by omega), show i - k = (i - (k + 1)) + 1 from by omega]; simp [List.getD]

theorem ret_slice {a : Option Addr} {n m c : Nat} (h : n = m) : Ending.returned (.slice a n c) = .returned (.slice a m c) := by rw [h]

set_option maxHeartbeats 1000000 in
theorem dec_any (v : Nat) (hv : v < 18446744073709551616) (w : World) :
    Calls Try.prog 15 #[.int .u64 (v : Int)] w fun e w' => ∃ b c, e = .returned (.slice (some ⟨b, 0, none⟩) (dec v).length c) ∧ Bs .u8 w' (some ⟨b, 0, none⟩) (dec v) ∧ Below w.heap.size w w' := by
  go_enter Try.func15, Try.ntmps15
  go_wp2_with fail
  go_loopw [0, 4] (fun xv kv wr => ∃ (k x : Nat) (S : List Int), k ≤ 19 ∧ kv = .int .i64 (k : Int) ∧ xv = .int .u64 (x : Int) ∧ x ≤ 18446744073709551615 ∧ Hid (S.length + k = 19 ∧ decF k x ++ S = dec v ∧ x < 10 ^ (k + 1)) ∧ wr.rowIs w.heap.size 49 20 (fun i => if i ≤ k then .int .u8 0 else .int .u8 (S.getD (i - (k + 1)) 0)) ∧ Below w.heap.size w wr) (fun _ kv _ => (intOf kv).toNat)
  case atStart =>
    refine ⟨19, v, [], by omega, rfl, rfl, by omega, ⟨rfl, by simp [dec], by omega⟩, ?_, (Below.refl _ _).alloc (Nat.le_refl _) _⟩
    refine (World.rowIs_alloc w _ 49 (fun _ => .int .u8 0) ?_).congr ?_
    · intro i hi
      simp at hi
      rcases i with _ | _ | _ | _ | _ | _ | _ | _ | _ | _ | _ | _ | _ | _ | _ | _ | _ | _ | _ | _ | i
      all_goals first | rfl | omega
    · intro i hi; simp at hi; rw [if_pos (by omega)]
  case round =>
    obtain ⟨k, x, S, hk, rfl, rfl, hx, HD, hrow, hbel⟩ := hrel
    by_cases h10 : 10 ≤ x
    · have hk1 : 1 ≤ k := pow_ge HD.out.2.2 h10
      have hdst := hrow.cell (i := k) (by omega)
      have hfr := hrow.frozen k
      simp only [Nat.le_refl, if_true] at hdst
      have h10z : (10 : Int) ≤ (x : Int) := by omega
      have hk20 : (k : Int) < 20 := by omega
      go_wp2_with fail
      go_roundw
      case rel =>
        obtain ⟨hl, hd, hp⟩ := HD.out
        refine ⟨k - 1, x / 10, (48 + (x : Int) % 10) :: S, by omega, by go_num, by go_num, by omega, ⟨by simp; omega, ?_, pow_div hp hk1⟩, (row_put _ hrow).congr ?_, hbel.setCell (Nat.le_refl _) _⟩
        · rw [← hd, decF_down h10 hk1, List.append_assoc, show ((x % 10 : Nat) : Int) = (x : Int) % 10 from by omega]; rfl
        · intro i hi
          by_cases h : i < k
          · rw [if_pos h, if_pos (by omega)]
          · rw [if_neg h, if_neg (by omega), show k - 1 + 1 = k from by omega]
      case measure => simp [intOf]; omega
    · have hdst := hrow.cell (i := k) (by omega)
      have hfr := hrow.frozen k
      simp only [Nat.le_refl, if_true] at hdst
      have h10z : (x : Int) < 10 := by omega
      have hk20 : (k : Int) < 20 := by omega
      obtain ⟨hl, hd, hp⟩ := HD.out
      rw [dec_short k x (by omega)] at hd
      have hfull : dec v = (48 + (x : Int)) :: S := hd.symm
      have hrow2 := row_put (48 + (x : Int)) hrow
      rw [← hfull] at hrow2
      have hlen : (dec v).length + k = 20 := by rw [hfull]; simp; omega
      have hbel2 : Below w.heap.size w (wr.setCell ⟨w.heap.size, k, none⟩ (.int .u8 (48 + (x : Int)))) := hbel.setCell (Nat.le_refl _) _
      have hmk := fun w => run_make0 (20 - (k : Int)) (20 - k) (by omega) (by omega) w
      have HL : Hid ((dec v).length + k = 20) := hlen
      clear hd hfull hlen hl hp HD
      obtain ⟨w2, hw2⟩ : ∃ w2, w2 = wr.setCell ⟨w.heap.size, k, none⟩ (.int .u8 (48 + (x : Int))) := ⟨_, rfl⟩
      have hsz2 : w2.heap.size = wr.heap.size := by rw [hw2]; simp
      rw [← hw2] at hrow2 hbel2
      have HW2 : Hid (wr.setCell ⟨w.heap.size, k, none⟩ (.int .u8 (48 + (x : Int))) = w2) := hw2.symm
      clear hw2
      have f7 : decide ((10 : Int) ≤ (x : Int)) = false := decide_eq_false (by omega)
      have hBG : w.heap.size < wr.heap.size := hrow.lt
      obtain ⟨wo, rfl⟩ : ∃ wo : World, wo = wr := ⟨_, rfl⟩
      go_wp2_with fail
      clear hmk hdst hfr
      rw [HW2.out]
      go_loopw [4, 5] (fun kv ov wr => ∃ (j n : Nat), j ≤ 20 ∧ n + k = j ∧ kv = .int .i64 (j : Int) ∧ ov = .slice (some ⟨wo.heap.size, 0, none⟩) n (20 - k) ∧ Own wr wo.heap.size (20 - k) ((dec v).take n) ∧ wr.rowIs w.heap.size 49 20 (fun i => if i < k then .int .u8 0 else .int .u8 ((dec v).getD (i - k) 0)) ∧ Below w.heap.size w wr) (fun kv _ _ => 20 - (intOf kv).toNat)
      case atStart =>
        refine ⟨k, 0, by omega, by omega, rfl, rfl, ?_, hrow2.alloc _, hbel2.alloc (by omega) _⟩
        have := own_made w2 (20 - k) (by omega)
        rw [hsz2] at this
        simpa using this
      case round =>
        obtain ⟨j, n, hj, hn, rfl, rfl, hown, hrw, hbl⟩ := hrel
        by_cases hlt : j < 20
        · have hcell := hrw.cell (i := j) hlt
          rw [if_neg (by omega), show j - k = n from by omega] at hcell
          obtain ⟨c, hcc⟩ : ∃ c, c = (dec v).getD n 0 := ⟨_, rfl⟩
          rw [← hcc] at hcell
          have HC : Hid (c = (dec v).getD n 0) := hcc
          have HN : Hid (n + k = j) := hn
          have hlt' : (j : Int) < 20 := by omega
          have hnl : n < (dec v).length := by have := HL.out; omega
          have hbs : Bs .u8 (wr.alloc (.cells #[.int .u8 c] 5)) (some ⟨wr.heap.size, 0, none⟩) [c] := by
            refine .inr ⟨_, 0, rfl, fun i hi => ?_⟩
            simp at hi; subst hi
            simp
          have hcap : ((dec v).take n).length + [c].length ≤ 20 - k := by have := HL.out; simp; omega
          have hnn : n = ((dec v).take n).length := by simp; omega
          have HNN : Hid (n = ((dec v).take n).length) := hnn
          clear hcc hn hnn
          go_wp2_with (at_builtin; refine wpList_app _ rfl _ _ rfl wo.heap.size (20 - k) n 1 1 ((dec v).take n) [c] HNN.out rfl _ rfl rfl (own_alloc hown _) (by intro h; cases h) hbs hcap ?_; intro w5 hown5 hbel5)
          go_roundw
          case rel =>
            refine ⟨j + 1, n + 1, by omega, by have := HN.out; omega, by go_num, rfl, ?_, rowIs_below (hrw.alloc _) hBG hbel5, (hbl.alloc hbl.size _).trans (hbel5.mono (by omega))⟩
            rw [take_snoc _ _ hnl, ← HC.out]; exact hown5
          case measure => simp [intOf]; omega
        · have hj20 : j = 20 := by omega
          have hnl : n = (dec v).length := by have := HL.out; omega
          have HN : Hid (n = (dec v).length) := hnl
          clear hnl hn
          subst hj20
          go_wp2_with fail
          go_ret
          refine ⟨wo.heap.size, 20 - k, ret_slice HN.out, ?_, hbl⟩
          rw [List.take_of_length_le (by have := HN.out; omega)] at hown
          exact own_bs hown
end Go.Proofs.Qxb6602322a
