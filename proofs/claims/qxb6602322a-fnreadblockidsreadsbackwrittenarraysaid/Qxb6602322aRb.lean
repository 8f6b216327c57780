import Derived.Test.Qxb6602322aIds
namespace Go.Proofs.Qxb6602322a
open Go.RowKit

theorem ret_tri {V : Value} {a b : Int} (h : a = b) : Ending.returned (.tuple #[V, .int .i64 a, .bool true]) = .returned (.tuple #[V, .int .i64 b, .bool true]) := by rw [h]

theorem skip_z (l : List Int) (b off cap i0 : Nat) (hlen : l.length ≤ 1073741824) (h1 : i0 ≤ 1073741824) (w : World)
    (hc : ∀ i, i < l.length → w.cell? ⟨b, off + i, none⟩ = some (.int .u8 (l.getD i 0))) (iz : Int) (hiz : iz = (i0 : Int)) (r : Nat) (hr : skipN l i0 = r) :
    Calls Try.prog 33 #[.slice (some ⟨b, off, none⟩) l.length cap, .int .i64 iz] w fun e w' => e = .returned (.int .i64 (r : Int)) ∧ w = w' := by
  subst hiz hr
  exact skip_some l b off cap i0 hlen h1 w hc

theorem sp91 : isSp 93 = false := by decide
theorem sp44 : isSp 44 = false := by decide

set_option maxHeartbeats 1000000 in
/-- The empty array. -/
theorem rb_empty (D : List Int) (b off cap i0 : Nat) (pad z : List Int) (hlen : D.length ≤ 1073741824) (w : World)
    (hc : ∀ i, i < D.length → w.cell? ⟨b, off + i, none⟩ = some (.int .u8 (D.getD i 0))) (hp : ∀ c ∈ pad, isSp c = true)
    (hD : D.drop i0 = 91 :: (pad ++ (93 :: z))) :
    Calls Try.prog 30 #[.slice (some ⟨b, off, none⟩) D.length cap, .int .i64 (i0 : Int)] w fun e w' => ∃ g c, e = .returned (.tuple #[.slice (some ⟨g, 0, none⟩) 0 c, .int .i64 ((i0 + pad.length + 2 : Nat) : Int), .bool true]) ∧ Below w.heap.size w w' := by
  obtain ⟨h1, h2, h3⟩ := at_cons hD
  have hsk := skipN_pad h3 hp sp91
  obtain ⟨h4, h5, h6⟩ := at_cons (at_app h3)
  have hcell0 := hc i0 h1
  rw [h2] at hcell0
  have hcell1 := hc (i0 + 1 + pad.length) h4
  rw [h5] at hcell1
  have HB : Hid (∀ i, i < D.length → w.cell? ⟨b, off + i, none⟩ = some (.int .u8 (D.getD i 0))) := hc
  clear hc h2 h3 h5 h6 hD hp
  have hne : ((i0 : Int) == (D.length : Int)) = false := beq_eq_false_iff_ne.2 (by omega)
  have hi1 : (i0 : Int) < (D.length : Int) := by omega
  go_enter Try.func30, Try.ntmps30
  go_wp2_with fail
  obtain ⟨i1, hi1'⟩ : ∃ i1, i1 = i0 + 1 + pad.length := ⟨_, rfl⟩
  rw [← hi1'] at hcell1 h4 hsk
  have HI : Hid (i1 = i0 + 1 + pad.length) := hi1'
  have HSK : Hid (skipN D (i0 + 1) = i1) := hsk
  clear hi1' hsk
  have hi4 : (i1 : Int) < (D.length : Int) := by omega
  refine (skip_z D b off cap (i0 + 1) hlen (by omega) _ HB.out _ (by omega) i1 HSK.out).mono ?_
  rintro e w1 ⟨rfl, rfl⟩
  go_wp2_with fail
  go_ret3
  exact ⟨_, _, ret_tri (by have := HI.out; omega), (Below.refl _ _).alloc (Nat.le_refl _) _⟩

theorem count_le (l : List UInt8) (c : UInt8) : Lib.countByte l c ≤ l.length := by
  unfold Lib.countByte; exact List.count_le_length

set_option maxHeartbeats 4000000 in
/-- An array of one id or more. -/
theorem rb_some (D : List Int) (b off cap i0 : Nat) (pad z : List Int) (v0 : Nat) (vs : List Nat) (hlen : D.length ≤ 1073741824) (hcap : D.length ≤ cap) (w : World)
    (hc : ∀ i, i < D.length → w.cell? ⟨b, off + i, none⟩ = some (.int .u8 (D.getD i 0))) (hp : ∀ c ∈ pad, isSp c = true) (hvs : ∀ v ∈ v0 :: vs, v < 18446744073709551616)
    (hD : D.drop i0 = 91 :: (pad ++ (dec v0 ++ (pad ++ wtail pad vs z)))) :
    Calls Try.prog 30 #[.slice (some ⟨b, off, none⟩) D.length cap, .int .i64 (i0 : Int)] w fun e w' => ∃ V, e = .returned (.tuple #[V, .int .i64 ((D.length - z.length : Nat) : Int), .bool true]) ∧ Below w.heap.size w w' ∧ Own64 w' w.heap.size V ((v0 :: vs).map (fun n : Nat => (n : Int))) ∧ V ≠ .slice none 0 0 := by
  obtain ⟨h1, h2, h3⟩ := at_cons hD
  obtain ⟨x0, r0, hx0, hx0s, hx093⟩ := dec_head v0
  have hsk := skipN_pad (D := D) (i := i0 + 1) (p := pad) (x := x0) (r := r0 ++ (pad ++ wtail pad vs z)) (by rw [h3, hx0]; rfl) hp hx0s
  have hDD := at_app h3
  have hDD' := hDD
  rw [hx0, List.cons_append] at hDD'
  obtain ⟨h4, h5, h6⟩ := at_cons hDD'
  have hcell0 := hc i0 h1
  rw [h2] at hcell0
  have hcell1 := hc (i0 + 1 + pad.length) h4
  rw [h5] at hcell1
  have HB : Hid (∀ i, i < D.length → w.cell? ⟨b, off + i, none⟩ = some (.int .u8 (D.getD i 0))) := hc
  have HP : Hid (∀ c ∈ pad, isSp c = true) := hp
  have HV : Hid (∀ v ∈ v0 :: vs, v < 18446744073709551616) := hvs
  obtain ⟨i1, hi1'⟩ : ∃ i1, i1 = i0 + 1 + pad.length := ⟨_, rfl⟩
  rw [← hi1'] at hcell1 h4 hsk hDD
  have HI : Hid (i1 = i0 + 1 + pad.length) := hi1'
  have HSK : Hid (skipN D (i0 + 1) = i1) := hsk
  have HDD : Hid (D.drop i1 = dec v0 ++ (pad ++ wtail pad vs z)) := hDD
  have hb : b < w.heap.size := by simpa using cell_lt hcell0
  -- what the search for the bracket answers
  obtain ⟨n, hn, hnl⟩ := indexByte_mem (Lib.bytesOf (D.drop i1)) (93 : Int).toNat.toUInt8 (by
    unfold Lib.bytesOf
    refine List.mem_map.2 ⟨93, ?_, rfl⟩
    rw [hDD]; simp [wtail_mem])
  have hnl' : n < D.length - i1 := by simpa [Lib.bytesOf] using hnl
  have HN : Hid (Lib.indexByte (Lib.bytesOf (D.drop i1)) (93 : Int).toNat.toUInt8 = (n : Int)) := hn
  obtain ⟨m, hm⟩ : ∃ m, Lib.countByte (Lib.bytesOf ((D.drop i1).take n)) (44 : Int).toNat.toUInt8 = m := ⟨_, rfl⟩
  have hml : m ≤ n := by
    rw [← hm]
    refine Nat.le_trans (count_le _ _) ?_
    simp [Lib.bytesOf]; omega
  have HM : Hid (Lib.countByte (Lib.bytesOf ((D.drop i1).take n)) (44 : Int).toNat.toUInt8 = m) := hm
  have hmk := fun w => run_make64 ((m : Int) + 1) (m + 1) (by omega) (by omega) w
  have hx93 : (x0 == 93) = false := by simpa using hx093
  clear hc h2 h3 h5 h6 hD hp hvs hi1' hsk hDD hDD' hn hm hx0 hx0s hx093 hnl
  have hne : ((i0 : Int) == (D.length : Int)) = false := beq_eq_false_iff_ne.2 (by omega)
  have hi1 : (i0 : Int) < (D.length : Int) := by omega
  have hi4 : (i1 : Int) < (D.length : Int) := by omega
  have hci : ¬ cap = i1 := by omega
  have f30 : decide ((i1 : Int) < (D.length : Int)) = true := decide_eq_true (by omega)
  have f46 : decide ((n : Int) < 0) = false := decide_eq_false (by omega)
  go_enter Try.func30, Try.ntmps30
  go_wp2_with fail
  refine (skip_z D b off cap (i0 + 1) hlen (by omega) _ HB.out _ (by omega) i1 HSK.out).mono ?_
  rintro e w1 ⟨rfl, rfl⟩
  go_wp2_with fail
  refine (ix_any b (off + i1) _ _ (D.drop i1) n _ (by simp) ?_ HN.out).mono ?_
  · intro i hi
    have := HB.out (i1 + i) (by omega)
    rw [show off + i1 + i = off + (i1 + i) from by omega, this]
    simp [List.getD, List.getElem?_drop]
  rintro e w1 ⟨rfl, rfl⟩
  go_wp2_with fail
  refine (ct_any b (off + i1) n _ _ ((D.drop i1).take n) m _ (by simp; omega) ?_ (by simp) HM.out).mono ?_
  · intro i hi
    have := HB.out (i1 + i) (by omega)
    rw [show off + i1 + i = off + (i1 + i) from by omega, ((Below.refl w.heap.size w).alloc (Nat.le_refl _) (.cells #[.int .u8 44] 5)).cell (p := ⟨b, off + (i1 + i), none⟩) hb, this]
    simp [List.getD, List.getElem?_drop, hi]
  rintro e w1 ⟨rfl, rfl⟩
  go_wp2_with fail
  clear hmk hcell0 hcell1
  go_loopw [1, 8] (fun iv V wr => ∃ (i v : Nat) (done rest : List Nat), i ≤ D.length ∧ iv = .int .i64 (i : Int) ∧ done.length ≤ i ∧ Hid (done ++ v :: rest = v0 :: vs ∧ D.drop i = dec v ++ (pad ++ wtail pad rest z)) ∧ Own64 wr w.heap.size V (done.map (fun n : Nat => (n : Int))) ∧ Below w.heap.size w wr) (fun iv _ _ => D.length - (intOf iv).toNat)
  case atStart =>
    refine ⟨i1, v0, [], vs, by omega, rfl, by simp, ⟨rfl, HDD.out⟩, ?_, ((Below.refl _ _).alloc (Nat.le_refl _) _).alloc (by simp) _⟩
    have := own64_made (w.alloc (.cells #[.int .u8 44] 5)) (m + 1) (by omega)
    obtain ⟨q1, q2⟩ := this
    refine ⟨q1, ?_⟩
    rcases q2 with ⟨h, _⟩ | ⟨g, cap, cur, k1, k2, k3⟩
    · cases h
    · exact .inr ⟨g, cap, cur, by simpa using k1, by simp at k2; omega, k3⟩
  case round =>
    obtain ⟨i, v, done, rest, hi, rfl, hdn, HR, hown, hbel⟩ := hrel
    have hcw : ∀ i, i < D.length → wr.cell? ⟨b, off + i, none⟩ = some (.int .u8 (D.getD i 0)) := fun i hi => by rw [hbel.cell (p := ⟨b, off + i, none⟩) hb]; exact HB.out i hi
    have HBW : Hid (∀ i, i < D.length → wr.cell? ⟨b, off + i, none⟩ = some (.int .u8 (D.getD i 0))) := hcw
    obtain ⟨x, r, hxr, hx0, hx1, hxd⟩ := pad_head pad HP.out rest z
    have hv64 : v < 18446744073709551616 := HV.out v (by rw [← HR.out.1]; simp)
    have hd2 := HR.out.2
    rw [hxr] at hd2
    have HD2 : Hid (D.drop i = dec v ++ (x :: r)) := hd2
    have HXD : Hid (¬ isDg x) := hxd
    clear hcw hxr hd2 hxd
    go_wp2_with fail
    refine (ru_any D b off cap i x r v hlen hcap _ HBW.out HD2.out hv64 hx0 hx1 HXD.out).mono ?_
    rintro e w1 ⟨rfl, rfl⟩
    have hbs : wr.heap.size ≥ w.heap.size := hbel.size
    go_wp2_with (at_builtin; refine wpList_app64 _ rfl _ _ rfl w.heap.size _ (done.map (fun n : Nat => (n : Int))) (v : Int) ⟨wr.heap.size, 0, none⟩ rfl rfl (World.ownsRow.alloc hown _) (by simp) (by simp; omega) (by simp; omega) ?_; intro V' w5 hown5 hbel5 hne5)
    have belw5 : Below w.heap.size w w5 := (hbel.alloc hbs _).trans hbel5
    have HB5 : Hid (∀ i, i < D.length → w5.cell? ⟨b, off + i, none⟩ = some (.int .u8 (D.getD i 0))) := fun i hi => by rw [belw5.cell (p := ⟨b, off + i, none⟩) hb]; exact HB.out i hi
    have hd3 := at_app HR.out.2
    obtain ⟨y, ry, hy, hyc⟩ := wtail_head pad rest z
    rw [hy] at hd3
    have hysp : isSp y = false := by rcases hyc with ⟨rfl, _⟩ | ⟨rfl, _⟩ <;> decide
    have hsk2 := skipN_pad hd3 HP.out hysp
    obtain ⟨k4, k5, k6⟩ := at_cons (at_app hd3)
    obtain ⟨i2, hi2⟩ : ∃ i2, i2 = i + (dec v).length + pad.length := ⟨_, rfl⟩
    rw [← hi2] at hsk2 k4 k5 k6
    have hcelly := HB5.out i2 k4
    rw [k5] at hcelly
    have HSK2 : Hid (skipN D (i + (dec v).length) = i2) := hsk2
    have HI2 : Hid (i2 = i + (dec v).length + pad.length ∧ D.drop (i2 + 1) = ry) := ⟨hi2, k6⟩
    have hdl := (decF_len 19 v).1
    have hi2l : i + (dec v).length ≤ i2 := by omega
    have hid : i < i2 := by unfold dec at hi2; omega
    clear hsk2 hi2 k5 k6 hd3 hy hdl
    refine (skip_z D b off cap (i + (dec v).length) hlen (by omega) _ HB5.out _ (by omega) i2 HSK2.out).mono ?_
    rintro e w1 ⟨rfl, rfl⟩
    have hne2 : ((i2 : Int) == (D.length : Int)) = false := beq_eq_false_iff_ne.2 (by omega)
    have hi2d : (i2 : Int) < (D.length : Int) := by omega
    rcases hyc with ⟨rfl, hre, hrz⟩ | ⟨rfl, v2, rest2, hre, hrz⟩
    · have HRE : Hid (rest = [] ∧ ry = z) := ⟨hre, hrz⟩
      clear hre hrz
      go_wp2_with fail
      go_ret3
      refine ⟨V', ret_tri ?_, belw5, ?_, hne5⟩
      · have e1 := HI2.out.2
        rw [HRE.out.2] at e1
        have e2 := congrArg List.length e1
        simp at e2
        omega
      · have e1 := HR.out.1
        rw [HRE.out.1] at e1
        rw [← e1, List.map_append]
        exact hown5
    · have HRE : Hid (rest = v2 :: rest2 ∧ ry = pad ++ (dec v2 ++ (pad ++ wtail pad rest2 z))) := ⟨hre, hrz⟩
      clear hre hrz
      have hd4 := HI2.out.2
      rw [HRE.out.2] at hd4
      obtain ⟨x2, r2, hx2, hx2s, _⟩ := dec_head v2
      have hsk3 := skipN_pad (D := D) (i := i2 + 1) (p := pad) (x := x2) (r := r2 ++ (pad ++ wtail pad rest2 z)) (by rw [hd4, hx2]; rfl) HP.out hx2s
      have hd5 := at_app hd4
      have HS3 : Hid (skipN D (i2 + 1) = i2 + 1 + pad.length) := hsk3
      have HD5 : Hid (D.drop (i2 + 1 + pad.length) = dec v2 ++ (pad ++ wtail pad rest2 z)) := hd5
      have hle5 : i2 + 1 + pad.length ≤ D.length := by
        rw [hx2, List.cons_append] at hd5
        exact Nat.le_of_lt (at_cons hd5).1
      clear hd4 hsk3 hd5 hx2 hx2s
      obtain ⟨i3, hi3⟩ : ∃ i3, i3 = i2 + 1 + pad.length := ⟨_, rfl⟩
      rw [← hi3] at hle5
      have HI3 : Hid (i3 = i2 + 1 + pad.length) := hi3
      have hi3l : i2 + 1 ≤ i3 := by omega
      clear hi3
      go_wp2_with (go_at_call 33; refine (skip_z D b off cap (i2 + 1) hlen (by omega) _ HB5.out _ (by omega) i3 (by rw [HS3.out, ← HI3.out])).mono ?_; rintro e w1 ⟨rfl, rfl⟩)
      go_roundw
      case rel =>
        refine ⟨i3, v2, done ++ [v], rest2, by omega, rfl, by simp; omega, ⟨?_, ?_⟩, ?_, belw5⟩
        · rw [← HR.out.1, HRE.out.1]; simp
        · rw [HI3.out]; exact HD5.out
        · rw [List.map_append]; exact hown5
      case measure => simp [intOf]; omega

theorem zzrb_some (D : List Int) (b off cap i0 : Nat) (pad z : List Int) (v0 : Nat) (vs : List Nat) (hlen : D.length ≤ 1073741824) (hcap : D.length ≤ cap) (w : World)
    (hc : ∀ i, i < D.length → w.cell? ⟨b, off + i, none⟩ = some (.int .u8 (D.getD i 0))) (hp : ∀ c ∈ pad, isSp c = true) (hvs : ∀ v ∈ v0 :: vs, v < 18446744073709551616)
    (hD : D.drop i0 = 91 :: (pad ++ (dec v0 ++ (pad ++ wtail pad vs z)))) :
    Calls Try.prog 18 #[.slice (some ⟨b, off, none⟩) D.length cap, .int .i64 (i0 : Int)] w fun e w' => ∃ V, e = .returned (.tuple #[V, .int .i64 ((D.length - z.length : Nat) : Int), .bool true]) ∧ Below w.heap.size w w' ∧ Own64 w' w.heap.size V ((v0 :: vs).map (fun n : Nat => (n : Int))) ∧ V ≠ .slice none 0 0 := by
  have H : Hid ((∀ i, i < D.length → w.cell? ⟨b, off + i, none⟩ = some (.int .u8 (D.getD i 0))) ∧ (∀ c ∈ pad, isSp c = true) ∧ (∀ v ∈ v0 :: vs, v < 18446744073709551616) ∧ D.drop i0 = 91 :: (pad ++ (dec v0 ++ (pad ++ wtail pad vs z)))) := ⟨hc, hp, hvs, hD⟩
  clear hc hp hvs hD
  go_enter Try.func18, Try.ntmps18
  go_wp2_with fail
  refine (rb_some D b off cap i0 pad z v0 vs hlen hcap _ H.out.1 H.out.2.1 H.out.2.2.1 H.out.2.2.2).mono ?_
  rintro e w1 ⟨V, rfl, hbel, hown, hne⟩
  go_wp2_with fail
  go_ret3
  exact ⟨V, rfl, hbel, hown, hne⟩

theorem zzrb_empty (D : List Int) (b off cap i0 : Nat) (pad z : List Int) (hlen : D.length ≤ 1073741824) (w : World)
    (hc : ∀ i, i < D.length → w.cell? ⟨b, off + i, none⟩ = some (.int .u8 (D.getD i 0))) (hp : ∀ c ∈ pad, isSp c = true)
    (hD : D.drop i0 = 91 :: (pad ++ (93 :: z))) :
    Calls Try.prog 18 #[.slice (some ⟨b, off, none⟩) D.length cap, .int .i64 (i0 : Int)] w fun e w' => ∃ g c, e = .returned (.tuple #[.slice (some ⟨g, 0, none⟩) 0 c, .int .i64 ((i0 + pad.length + 2 : Nat) : Int), .bool true]) ∧ Below w.heap.size w w' := by
  have H : Hid ((∀ i, i < D.length → w.cell? ⟨b, off + i, none⟩ = some (.int .u8 (D.getD i 0))) ∧ (∀ c ∈ pad, isSp c = true) ∧ D.drop i0 = 91 :: (pad ++ (93 :: z))) := ⟨hc, hp, hD⟩
  clear hc hp hD
  go_enter Try.func18, Try.ntmps18
  go_wp2_with fail
  refine (rb_empty D b off cap i0 pad z hlen _ H.out.1 H.out.2.1 H.out.2.2).mono ?_
  rintro e w1 ⟨g, c, rfl, hbel⟩
  go_wp2_with fail
  go_ret3
  exact ⟨g, c, rfl, hbel⟩
end Go.Proofs.Qxb6602322a
