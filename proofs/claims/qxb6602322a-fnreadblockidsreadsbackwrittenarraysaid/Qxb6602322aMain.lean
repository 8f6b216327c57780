import Derived.Test.Qxb6602322aOut
import Derived.Test.Qxb6602322aAll
namespace Go.Proofs.Qxb6602322a
open Go.RowKit

set_option maxRecDepth 100000 in
set_option maxHeartbeats 4000000 in
theorem rba_in (l0 l1 l2 l3 : List Int) (a0 a1 a2 a3 : Option Addr) (c0 c1 c2 c3 : Nat) (w : World)
    (h8 : l0.length + 8 * l1.length + l2.length + l3.length ≤ 1048576) (hU : l0.length + l3.length + l2.length + 2 + l1.length * (2 * l2.length + 21) ≤ 4194304)
    (d1 : ∀ x ∈ l1, 0 ≤ x ∧ x ≤ 18446744073709551615)
    (b0 : Bs .u8 w a0 l0) (b1 : Bs .u64 w a1 l1) (b2 : Bs .u8 w a2 l2) (b3 : Bs .u8 w a3 l3) (e0 : a0 = none → l0 = []) (e1 : a1 = none → l1 = []) (e2 : a2 = none → l2 = []) (e3 : a3 = none → l3 = []) :
    Calls Try.prog 6 #[.slice a0 l0.length c0, .slice a1 l1.length c1, .slice a2 l2.length c2, .slice a3 l3.length c3] w fun e w' => e = .returned (.bool true) ∧ Below w.heap.size w w' := by
  have D : Hid (∀ x ∈ l1, 0 ≤ x ∧ x ≤ 18446744073709551615) := d1
  have E : Hid ((a0 = none → l0 = []) ∧ (a1 = none → l1 = []) ∧ (a2 = none → l2 = []) ∧ (a3 = none → l3 = [])) := ⟨e0, e1, e2, e3⟩
  clear d1 e0 e1 e2 e3
  obtain ⟨q, hq⟩ : ∃ q : Nat, l1.length * (2 * l2.length + 21) = q := ⟨_, rfl⟩
  rw [hq] at hU
  have hqz : (l1.length : Int) * (2 * (l2.length : Int) + 21) = (q : Int) := by rw [← hq]; simp
  have HQ : Hid (l1.length * (2 * l2.length + 21) = q) := hq
  clear hq
  have f26 : decide ((1048576 : Int) < (l0.length : Int)) = false := decide_eq_false (by omega)
  have f30 : decide ((131072 : Int) < (l1.length : Int)) = false := decide_eq_false (by omega)
  have f35 : decide ((1048576 : Int) < (l2.length : Int)) = false := decide_eq_false (by omega)
  have f40 : decide ((1048576 : Int) < (l3.length : Int)) = false := decide_eq_false (by omega)
  have f54 : decide ((1048576 : Int) < (l0.length : Int) + 8 * (l1.length : Int) + (l2.length : Int) + (l3.length : Int)) = false := decide_eq_false (by omega)
  have f76 : decide ((4194304 : Int) < (l0.length : Int) + (l3.length : Int) + (l2.length : Int) + 2 + (q : Int)) = false := decide_eq_false (by omega)
  go_enter Try.func6, Try.ntmps6
  go_wp2_with (go_at_call 19; refine (zzb_yes _ _ _ _ _ _ _ _ _ _ _ _ _ (by omega)).mono ?_; rintro e w' ⟨rfl, rfl⟩)
  go_loopw [10] (fun v wr => ∃ k : Nat, k ≤ l2.length ∧ v = .int .i64 (k : Int) ∧ Hid (∀ j, j < k → isSp (l2.getD j 0) = true) ∧ wr = w) (fun v _ => l2.length - (intOf v).toNat)
  case atStart => exact ⟨0, by omega, rfl, fun j hj => by omega, rfl⟩
  case round =>
    obtain ⟨k, hk, rfl, HS, rfl⟩ := hrel
    by_cases hlt : k < l2.length
    · obtain ⟨b, off, ha, hc⟩ := b2.resolve_left (by rintro rfl; simp at hlt)
      have hcell := hc k hlt
      obtain ⟨c, hcc⟩ : ∃ c, c = l2.getD k 0 := ⟨_, rfl⟩
      rw [← hcc] at hcell
      have HC : Hid (c = l2.getD k 0) := hcc
      have hkl : (k : Int) < (l2.length : Int) := by omega
      clear hc hcc
      subst ha
      cases hsp : isSp c with
      | true =>
        go_wp2_with (go_at_call 20; refine (isspace_any _ _).mono ?_; rintro e w' ⟨rfl, rfl⟩)
        go_roundw
        case rel =>
          refine ⟨k + 1, by omega, by go_num, fun j hj => ?_, trivial⟩
          by_cases h : j = k
          · subst h; rw [← HC.out]; exact hsp
          · exact HS.out j (by omega)
        case measure => simp [intOf]; omega
      | false =>
        go_wp2_with (go_at_call 20; refine (isspace_any _ _).mono ?_; rintro e w' ⟨rfl, rfl⟩)
        go_ret
        exact ⟨rfl, Below.refl _ _⟩
    · obtain rfl : k = l2.length := by omega
      have HP : Hid (∀ c ∈ l2, isSp c = true) := by
        intro c hc
        obtain ⟨j, hj, rfl⟩ := List.getElem_of_mem hc
        have := HS.out j hj
        simpa [List.getD, hj] using this
      obtain ⟨w, rfl⟩ : ∃ w : World, w = wr := ⟨_, rfl⟩
      go_wp2_with fail
      refine (clone_any l0 _ _ (by omega) _ b0 E.out.1).mono ?_
      rintro e w1 ⟨a0', c0', rfl, b0', bel1, z0⟩
      have b1' := b1.below (Nat.le_refl _) bel1
      have b2' := b2.below (Nat.le_refl _) bel1
      have b3' := b3.below (Nat.le_refl _) bel1
      clear b0 b1 b2 b3
      go_wp2_with fail
      refine (clone64_any l1 _ _ (by omega) _ b1' E.out.2.1).mono ?_
      rintro e w2 ⟨a1', c1', rfl, b1'', bel2, z1⟩
      have b0'' := b0'.below (Nat.le_refl _) bel2
      have b2'' := b2'.below (Nat.le_refl _) bel2
      have b3'' := b3'.below (Nat.le_refl _) bel2
      clear b0' b1' b2' b3'
      go_wp2_with fail
      refine (clone_any l2 _ _ (by omega) _ b2'' E.out.2.2.1).mono ?_
      rintro e w3 ⟨a2', c2', rfl, b2', bel3, z2⟩
      have b0' := b0''.below (Nat.le_refl _) bel3
      have b1' := b1''.below (Nat.le_refl _) bel3
      have b3' := b3''.below (Nat.le_refl _) bel3
      clear b0'' b1'' b2'' b3''
      go_wp2_with fail
      refine (clone_any l3 _ _ (by omega) _ b3' E.out.2.2.2).mono ?_
      rintro e w4 ⟨a3', c3', rfl, b3c, bel4, z3⟩
      have b0c := b0'.below (Nat.le_refl _) bel4
      have b1c := b1'.below (Nat.le_refl _) bel4
      have b2c := b2'.below (Nat.le_refl _) bel4
      have bel : Below w.heap.size w w4 := ((bel1.trans (bel2.mono bel1.size)).trans (bel3.mono (Nat.le_trans bel1.size bel2.size))).trans (bel4.mono (Nat.le_trans (Nat.le_trans bel1.size bel2.size) bel3.size))
      have Z : Hid ((a0' = none → l0.length = 0 ∧ c0' = 0) ∧ (a1' = none → l1.length = 0 ∧ c1' = 0) ∧ (a2' = none → l2.length = 0 ∧ c2' = 0) ∧ (a3' = none → l3.length = 0 ∧ c3' = 0)) := ⟨z0, z1, z2, z3⟩
      clear b0' b1' b2' b3' bel1 bel2 bel3 bel4 z0 z1 z2 z3
      obtain ⟨U, hUe⟩ : ∃ U, U = l0.length + l3.length + l2.length + 2 + q := ⟨_, rfl⟩
      have hmk := fun w => run_make0 ((l0.length : Int) + (l3.length : Int) + (l2.length : Int) + 2 + (q : Int)) U (by omega) (by omega) w
      have hUl : l0.length + l3.length + l2.length + 2 + q ≤ U := by omega
      have hUh : U ≤ 4194304 := by omega
      clear hUe
      have own0 := own_made w4 U (by omega)
      have belm : ∀ o, Below w4.heap.size w4 (w4.alloc o) := fun o => (Below.refl _ _).alloc (Nat.le_refl _) o
      go_wp2_with (first
        | (at_builtin; refine wpList_app _ rfl (.tmp 100) (.tmp 101) rfl w4.heap.size U _ _ _ [] l0 rfl rfl _ rfl rfl own0 Z.out.1 (b0c.below (Nat.le_refl _) (belm _)) (by simp; omega) ?_; intro w5 own5 bel5)
        | (at_builtin; refine wpList_app _ rfl (.tmp 103) (.tmp 104) rfl w4.heap.size U _ 1 1 ([] ++ l0) [91] (by simp) rfl _ rfl rfl (own_alloc own5 _) (by intro h; cases h) (bs_one w5 91) (by simp; omega) ?_; intro w6 own6 bel6)
        | (at_builtin; refine wpList_app _ rfl (.tmp 106) (.tmp 107) rfl w4.heap.size U _ _ _ ([] ++ l0 ++ [91]) l2 (by simp) rfl _ rfl rfl own6 Z.out.2.2.1 (b2c.below (Nat.le_refl _) (((belm _).trans bel5).trans (((Below.refl _ w5).alloc (Nat.le_of_lt (own_lt own5)) _).trans bel6))) (by simp; omega) ?_; intro w7 own7 bel7))
      have belG : Below w4.heap.size w4 w7 := (((belm _).trans bel5).trans (((Below.refl _ w5).alloc (Nat.le_of_lt (own_lt own5)) _).trans bel6)).trans bel7
      clear own0 belm own5 bel5 own6 bel6 bel7 hmk
      go_loopw [11, 12] (fun dv kv wr => ∃ (k N : Nat) (L : List Int), k ≤ l1.length ∧ kv = .int .i64 (k : Int) ∧ dv = .slice (some ⟨w4.heap.size, 0, none⟩) N U ∧ Hid (N = L.length ∧ L = l0 ++ (91 :: (l2 ++ bodyN l2 l1 k))) ∧ Own wr w4.heap.size U L ∧ Below w4.heap.size w4 wr) (fun _ kv _ => l1.length - (intOf kv).toNat)
      case atStart => exact ⟨0, _, l0 ++ (91 :: (l2 ++ [])), by omega, rfl, rfl, ⟨by simp; omega, rfl⟩, by simpa using own7, belG⟩
      case round =>
        obtain ⟨k, N, L, hk, rfl, rfl, HL, hown, belr⟩ := hrel
        have hGr : w4.heap.size ≤ wr.heap.size := Nat.le_of_lt (own_lt hown)
        by_cases hlt : k < l1.length
        · obtain ⟨bb, boff, ha, hc⟩ := b1c.resolve_left (by rintro rfl; simp at hlt)
          have hcell := hc k hlt
          have hbd := getD_mem_bd D.out k hlt
          obtain ⟨v, hv⟩ : ∃ v : Nat, l1.getD k 0 = (v : Int) := ⟨(l1.getD k 0).toNat, by omega⟩
          rw [hv] at hcell hbd
          have hblt := cell_lt hcell
          simp at hblt
          have HCB : Hid (∀ W : World, Below w4.heap.size w4 W → W.cell? ⟨bb, boff + k, none⟩ = some (.int .u64 (v : Int))) := fun W h => by rw [h.cell (p := ⟨bb, boff + k, none⟩) hblt]; exact hcell
          clear hcell
          have HV : Hid (l1.getD k 0 = (v : Int)) := hv
          have hv64 : v < 18446744073709551616 := by omega
          have hkl : (k : Int) < (l1.length : Int) := by omega
          have hdl := (decF_len 19 v).2
          have hLlen : L.length ≤ l0.length + 1 + l2.length + k * (2 * l2.length + 21) := by
            rw [HL.out.2]
            have := bodyN_len l2 l1 k
            simp; omega
          have hmul : (k + 1) * (2 * l2.length + 21) ≤ q := by rw [← HQ.out]; exact Nat.mul_le_mul_right _ (by omega)
          rw [Nat.succ_mul] at hmul
          obtain ⟨mk, hmk⟩ : ∃ mk, mk = k * (2 * l2.length + 21) := ⟨_, rfl⟩
          rw [← hmk] at hmul hLlen
          have hdl' : (dec v).length ≤ 20 := hdl
          clear hc hv hbd hmk hdl
          subst ha
          have Bel2 : ∀ {W : World}, Below w4.heap.size w4 W → Bs .u8 W a2' l2 := fun h => b2c.below (Nat.le_refl _) h
          by_cases hk0 : 0 < k
          · go_wp2_with (first
              | (at_builtin; refine wpList_app _ rfl (.tmp 117) (.tmp 118) rfl w4.heap.size U _ 1 1 L [44] HL.out.1 rfl _ rfl rfl (own_alloc hown _) (by intro h; cases h) (bs_one wr 44) (by simp; omega) ?_; intro w8 own8 bel8)
              | (at_builtin; refine wpList_app _ rfl (.tmp 120) (.tmp 121) rfl w4.heap.size U _ _ _ (L ++ [44]) l2 (by have := HL.out.1; simp only [List.length_append, List.length_cons, List.length_nil]; omega) rfl _ rfl rfl own8 Z.out.2.2.1 (Bel2 ((belr.alloc hGr _).trans bel8)) (by simp; omega) ?_; intro w9 own9 bel9; have hcell9 := HCB.out w9 (((belr.alloc hGr _).trans bel8).trans bel9))
              | (go_at_call 15; refine (dec_any v hv64 _).mono ?_; rintro e wd ⟨bd, cd, rfl, hbsd, hbeld⟩)
              | (at_builtin; refine wpList_app _ rfl (.tmp 123) (.tmp 128) rfl w4.heap.size U _ _ _ (L ++ [44] ++ l2) (dec v) (by have := HL.out.1; simp only [List.length_append, List.length_cons, List.length_nil]; omega) rfl _ rfl rfl (own_below own9 (own_lt own9) hbeld) (by intro h; cases h) hbsd (by simp; omega) ?_; intro w10 own10 bel10)
              | (at_builtin; refine wpList_app _ rfl (.tmp 130) (.tmp 131) rfl w4.heap.size U _ _ _ (L ++ [44] ++ l2 ++ dec v) l2 (by have := HL.out.1; simp only [List.length_append, List.length_cons, List.length_nil]; omega) rfl _ rfl rfl own10 Z.out.2.2.1 (Bel2 (((((belr.alloc hGr _).trans bel8).trans bel9).trans (hbeld.mono (Nat.le_of_lt (own_lt own9)))).trans bel10)) (by simp; omega) ?_; intro w11 own11 bel11))
            have belw11 : Below w4.heap.size w4 w11 := ((((((belr.alloc hGr _).trans bel8).trans bel9).trans (hbeld.mono (Nat.le_of_lt (own_lt own9)))).trans bel10)).trans bel11
            clear own8 bel8 own9 bel9 hbsd hbeld own10 bel10 bel11 hcell9 hown belr
            go_roundw
            case rel =>
              refine ⟨k + 1, _, L ++ [44] ++ l2 ++ dec v ++ l2, by omega, by go_num, rfl, ⟨?_, ?_⟩, own11, belw11⟩
              · have := HL.out.1; simp; omega
              · rw [bodyN, if_neg (by omega), HV.out, Int.toNat_natCast, HL.out.2]; simp [List.append_assoc]
            case measure => simp [intOf]; omega
          · have hk00 : k = 0 := by omega
            have HK0 : Hid (k = 0) := hk00
            clear hk00
            have hcell0 := HCB.out wr belr
            go_wp2_with (first
              | (go_at_call 15; refine (dec_any v hv64 _).mono ?_; rintro e wd ⟨bd, cd, rfl, hbsd, hbeld⟩)
              | (at_builtin; refine wpList_app _ rfl (.tmp 123) (.tmp 128) rfl w4.heap.size U _ _ _ L (dec v) HL.out.1 rfl _ rfl rfl (own_below hown (own_lt hown) hbeld) (by intro h; cases h) hbsd (by omega) ?_; intro w10 own10 bel10)
              | (at_builtin; refine wpList_app _ rfl (.tmp 130) (.tmp 131) rfl w4.heap.size U _ _ _ (L ++ dec v) l2 (by have := HL.out.1; simp only [List.length_append]; omega) rfl _ rfl rfl own10 Z.out.2.2.1 (Bel2 ((belr.trans (hbeld.mono hGr)).trans bel10)) (by simp; omega) ?_; intro w11 own11 bel11))
            have belw11 : Below w4.heap.size w4 w11 := ((belr.trans (hbeld.mono hGr)).trans bel10).trans bel11
            clear hbsd hbeld own10 bel10 bel11 hcell0 hown belr
            go_roundw
            case rel =>
              refine ⟨k + 1, _, L ++ dec v ++ l2, by omega, by go_num, rfl, ⟨?_, ?_⟩, own11, belw11⟩
              · have := HL.out.1; simp; omega
              · rw [bodyN, if_pos HK0.out, HV.out, Int.toNat_natCast, HL.out.2]; simp [List.append_assoc]
            case measure => simp [intOf]; omega
        · obtain rfl : k = l1.length := by omega
          have hLlen : L.length ≤ l0.length + 1 + l2.length + q := by
            rw [HL.out.2, ← HQ.out]
            have := bodyN_len l2 l1 l1.length
            simp; omega
          have hnil := fun (w : World) (a : Option Addr) (n c n' c' : Nat) => Lib.run_eql_slice_nil w 34 37 a n c n' c' Try.underlying34
          go_wp2_with (first
            | (at_builtin; refine wpList_app _ rfl (.tmp 133) (.tmp 134) rfl w4.heap.size U _ 1 1 L [93] HL.out.1 rfl _ rfl rfl (own_alloc hown _) (by intro h; cases h) (bs_one wr 93) (by simp; omega) ?_; intro w12 own12 bel12)
            | (at_builtin; refine wpList_app _ rfl (.tmp 138) (.tmp 139) rfl w4.heap.size U _ _ _ (L ++ [93]) l3 (by have := HL.out.1; simp only [List.length_append, List.length_cons, List.length_nil]; omega) rfl _ rfl rfl own12 Z.out.2.2.2 (b3c.below (Nat.le_refl _) ((belr.alloc hGr _).trans bel12)) (by simp; omega) ?_; intro w13 own13 bel13))
          have belw13 : Below w4.heap.size w4 w13 := ((belr.alloc hGr _).trans bel12).trans bel13
          refine (rb_all l0 l1 l2 l3 w4.heap.size U _ _ D.out HP.out (L ++ [93] ++ l3) (by rw [HL.out.2]) (by have := HL.out.1; simp only [List.length_append, List.length_cons, List.length_nil]; omega) (by simp; omega) hUh (own_bs own13) ((N : Int) + 1) (by have := HL.out.1; simp only [List.length_append, List.length_cons, List.length_nil]; omega)).mono ?_
          rintro e w14 ⟨g, cg, rfl, bel14, bg⟩
          have belF : Below w.heap.size w w14 := (bel.trans (belw13.mono bel.size)).trans (bel14.mono (Nat.le_trans bel.size belw13.size))
          have b1f : Bs .u64 w14 a1' l1 := (b1c.below (Nat.le_refl _) belw13).below (Nat.le_refl _) bel14
          clear own12 bel12 own13 bel13 belw13 bel14 hown belr b0c b1c b2c b3c own7 belG
          go_wp2_with fail
          clear hnil
          have HG : Hid (Bs .u64 w14 (some ⟨g, 0, none⟩) l1 ∧ Bs .u64 w14 a1' l1) := ⟨bg, b1f⟩
          clear bg b1f
          go_loopw [17] (fun v wr => ∃ k m : Nat, k ≤ l1.length ∧ v = .int .i64 (k : Int) ∧ wr = w14.drewN m) (fun v _ => l1.length - (intOf v).toNat)
          case atStart => exact ⟨0, 0, by omega, rfl, rfl⟩
          case round =>
            obtain ⟨k, m, hk2, rfl, rfl⟩ := hrel
            by_cases hlt2 : k < l1.length
            · obtain ⟨bg, og, hag, hcg⟩ := HG.out.1.resolve_left (by rintro rfl; simp at hlt2)
              cases hag
              obtain ⟨bi, oi, hai, hci⟩ := HG.out.2.resolve_left (by rintro rfl; simp at hlt2)
              have hcell1 := hcg k hlt2
              have hcell2 := hci k hlt2
              obtain ⟨x, hx⟩ : ∃ x, x = l1.getD k 0 := ⟨_, rfl⟩
              rw [← hx] at hcell1 hcell2
              have hkl : (k : Int) < (l1.length : Int) := by omega
              rw [Nat.zero_add] at hcell1
              clear hx hcg hci
              subst hai
              go_wp2_with fail
              go_quiet (fail)
              go_wp2_with fail
              go_roundw
              case rel => exact ⟨k + 1, m + nq, by omega, by go_num, rfl⟩
              case measure => simp [intOf]; omega
            · obtain rfl : k = l1.length := by omega
              go_wp2_with fail
              go_ret
              exact ⟨rfl, below_drewN belF _⟩
end Go.Proofs.Qxb6602322a
