import Derived.Test.Qxb6603216aBuild
namespace Go.Proofs.Qxb6603216a
open Go.RowKit

def ResB (e : Ending) (n m : Nat) : Prop := ∃ v : Bool, e = .returned (.bool v) ∧ (v = true → n ≤ 1048576 ∧ m ≤ 1048576)

theorem bytes_any (n : Nat) (a : Option Addr) (cap : Nat) (s : ByteArray) (w : World) (hn : n ≤ maxLen) (hs : s.size ≤ maxLen) :
    Calls Try.prog 9 #[.slice a n cap, .string s] w fun e w' => ResB e n s.size ∧ w = w' := by
  have h1 : n ≤ 9223372036854775807 := hn
  have h2 : s.size ≤ 9223372036854775807 := hs
  clear hn hs
  by_cases ha : n ≤ 1048576
  · by_cases hb : s.size ≤ 1048576
    · have ha' : (n : Int) ≤ 1048576 := by omega
      have hb' : (s.size : Int) ≤ 1048576 := by omega
      by_cases hc : (n : Int) + s.size ≤ 1048576
      · go_enter Try.func9, Try.ntmps9
        go_wp2_with fail
        go_ret
        exact ⟨⟨true, rfl, fun _ => ⟨ha, hb⟩⟩, rfl⟩
      · have hc' : 1048576 < (n : Int) + s.size := by omega
        go_enter Try.func9, Try.ntmps9
        go_wp2_with fail
        go_ret
        exact ⟨⟨false, rfl, (fun h => by cases h)⟩, rfl⟩
    · have ha' : (n : Int) ≤ 1048576 := by omega
      have hb' : 1048576 < (s.size : Int) := by omega
      go_enter Try.func9, Try.ntmps9
      go_wp2_with fail
      go_ret
      exact ⟨⟨false, rfl, (fun h => by cases h)⟩, rfl⟩
  · have ha' : 1048576 < (n : Int) := by omega
    go_enter Try.func9, Try.ntmps9
    go_wp2_with fail
    go_ret
    exact ⟨⟨false, rfl, (fun h => by cases h)⟩, rfl⟩

theorem bytes2_any (cr : Bool) (n : Nat) (a : Option Addr) (cap : Nat) (s : ByteArray) (w : World) (hn : n ≤ maxLen) (hs : s.size ≤ maxLen) :
    Calls Try.prog 18 #[.bool cr, .slice a n cap, .string s] w fun e w' => ResB e n s.size ∧ w = w' := by
  have h1 : n ≤ 9223372036854775807 := hn
  have h2 : s.size ≤ 9223372036854775807 := hs
  clear hn hs
  by_cases ha : n ≤ 1048576
  · by_cases hb : s.size ≤ 1048576
    · have ha' : (n : Int) ≤ 1048576 := by omega
      have hb' : (s.size : Int) ≤ 1048576 := by omega
      by_cases hc : (n : Int) + s.size ≤ 1048576
      · go_enter Try.func18, Try.ntmps18
        go_wp2_with fail
        go_ret
        exact ⟨⟨true, rfl, fun _ => ⟨ha, hb⟩⟩, rfl⟩
      · have hc' : 1048576 < (n : Int) + s.size := by omega
        go_enter Try.func18, Try.ntmps18
        go_wp2_with fail
        go_ret
        exact ⟨⟨false, rfl, (fun h => by cases h)⟩, rfl⟩
    · have ha' : (n : Int) ≤ 1048576 := by omega
      have hb' : 1048576 < (s.size : Int) := by omega
      go_enter Try.func18, Try.ntmps18
      go_wp2_with fail
      go_ret
      exact ⟨⟨false, rfl, (fun h => by cases h)⟩, rfl⟩
  · have ha' : 1048576 < (n : Int) := by omega
    go_enter Try.func18, Try.ntmps18
    go_wp2_with fail
    go_ret
    exact ⟨⟨false, rfl, (fun h => by cases h)⟩, rfl⟩

def hasK (kd : Int) : List Tk → Bool
  | [] => false
  | t :: r => t.kind == kd || hasK kd r

theorem hask_any (kd : Int) (ts : List Tk) (a : Option Addr) (cap : Nat) (w : World) (hlen : ts.length ≤ 1048576) (hb : TBs w a ts) :
    Calls Try.prog 14 #[.slice a ts.length cap, .int .i64 kd] w fun e w' => e = .returned (.bool (hasK kd ts)) ∧ w = w' := by
  go_enter Try.func14, Try.ntmps14
  go_wp2_with fail
  go_loopw [5] (fun iv wr => ∃ i : Nat, i ≤ ts.length ∧ iv = .int .i64 (i : Int) ∧ Hid (hasK kd (ts.drop i) = hasK kd ts) ∧ wr = w) (fun iv _ => ts.length - (intOf iv).toNat)
  case atStart => exact ⟨0, by omega, rfl, rfl, rfl⟩
  case round =>
    obtain ⟨i, hi, rfl, HP, rfl⟩ := hrel
    by_cases hlt : i < ts.length
    · have hne : ts ≠ [] := by rintro rfl; simp at hlt
      obtain ⟨b, off, ha, _⟩ := hb.resolve_left hne
      subst ha
      have hcw := tbs_cells hb hne
      have hil : (i : Int) < (ts.length : Int) := by omega
      obtain ⟨t, ht⟩ : ∃ t, t = ts.getD i Tk.zero := ⟨_, rfl⟩
      obtain ⟨k0, _, _, _, _, _, _⟩ := seven_at hcw i hlt ht
      have hp := HP.out
      rw [tdrop_cons ts i hlt, ← ht] at hp
      have HP2 : Hid ((t.kind == kd || hasK kd (ts.drop (i + 1))) = hasK kd ts) := hp
      clear ht hcw hb hne hp HP
      cases hk : (t.kind == kd) with
      | true =>
        go_wp2_with fail
        go_ret
        exact ⟨ret_bool (by have := HP2.out; rw [hk] at this; simpa using this), rfl⟩
      | false =>
        go_wp2_with fail
        go_roundw
        case rel => exact ⟨i + 1, by omega, by go_num, by have := HP2.out; rw [hk] at this; show _ = _; simpa using this, trivial⟩
        case measure => simp [intOf]; omega
    · obtain rfl : i = ts.length := by omega
      have HP2 : Hid (hasK kd ts = false) := by show _ = _; rw [← HP.out, List.drop_length]; rfl
      go_wp2_with fail
      go_ret
      exact ⟨ret_bool HP2.out.symm, rfl⟩

theorem sget (s : ByteArray) (i : Nat) (h : i < s.size) : s.data.toList.drop i = s[i] :: s.data.toList.drop (i + 1) :=
  List.drop_eq_getElem_cons (i := i) (l := s.data.toList) (by simpa using h)

theorem fs_any (s : ByteArray) (w : World) (hs : s.size ≤ 1048576) :
    Calls Try.prog 17 #[.string s] w fun e w' => ∃ z : Int, e = .returned (.int .i64 z) ∧ (z = -1 ∨ (0 ≤ z ∧ (47 : UInt8) ∈ s.data.toList)) ∧ (z = -1 → ¬ (47 : UInt8) ∈ s.data.toList) ∧ w = w' := by
  go_enter Try.func17, Try.ntmps17
  go_wp2_with fail
  go_loopw [3] (fun iv wr => ∃ i : Nat, i ≤ s.size ∧ iv = .int .i64 (i : Int) ∧ Hid (¬ (47 : UInt8) ∈ s.data.toList.take i) ∧ wr = w) (fun iv _ => s.size - (intOf iv).toNat)
  case atStart => exact ⟨0, by omega, rfl, by show ¬ _; simp, rfl⟩
  case round =>
    obtain ⟨i, hi, rfl, HP, rfl⟩ := hrel
    by_cases hlt : i < s.size
    · have hil : (i : Int) < (s.size : Int) := by omega
      obtain ⟨c, hcc⟩ : ∃ c, c = s[i] := ⟨_, rfl⟩
      have hcs : s[i] = c := hcc.symm
      have hmem : c ∈ s.data.toList := by rw [hcc]; exact List.getElem_mem (l := s.data.toList) (by simpa using hlt)
      have htk : s.data.toList.take (i + 1) = s.data.toList.take i ++ [c] := by
        rw [List.take_add_one, hcc]
        congr 1
        rw [List.getElem?_eq_getElem (by simpa using hlt)]
        rfl
      have HM : Hid (c ∈ s.data.toList) := hmem
      have HTK : Hid (s.data.toList.take (i + 1) = s.data.toList.take i ++ [c]) := htk
      clear hcc hmem htk
      by_cases h47 : c = 47
      · have hb47 : ((c.toNat : Int) == 47) = true := by subst h47; decide
        go_wp2_with fail
        go_ret
        exact ⟨_, rfl, .inr ⟨by omega, h47 ▸ HM.out⟩, fun h => by omega, rfl⟩
      · have hb47 : ((c.toNat : Int) == 47) = false := byte_ne h47
        go_wp2_with fail
        go_roundw
        case rel => exact ⟨i + 1, by omega, by go_num, (by show ¬ _; rw [HTK.out]; simp only [List.mem_append, List.mem_singleton]; rintro (h | h); exact HP.out h; exact h47 h.symm), trivial⟩
        case measure => simp [intOf]; omega
    · obtain rfl : i = s.size := by omega
      have HP2 : Hid (¬ (47 : UInt8) ∈ s.data.toList) := by
        show ¬ _
        have := HP.out
        rwa [List.take_of_length_le (by simp)] at this
      clear HP
      go_wp2_with fail
      go_ret
      exact ⟨-1, rfl, .inl rfl, fun _ => HP2.out, rfl⟩

theorem SF_long (ts : List Tk) (n : List UInt8) (h : n = []) (ht : ts ≠ []) : SF ts n = 2 := by
  subst h
  cases ts with
  | nil => exact absurd rfl ht
  | cons t r => rfl

set_option maxRecDepth 100000 in
set_option maxHeartbeats 4000000 in
theorem sf_any (ts : List Tk) (a : Option Addr) (cap : Nat) (s : ByteArray) (w : World) (hlen : ts.length ≤ 1048576) (hs : s.size ≤ 1048576) (hwf : ∀ t ∈ ts, t.wf) (hb : TBs w a ts) :
    Calls Try.prog 15 #[.slice a ts.length cap, .string s] w fun e w' => e = .returned (.int .i64 (SF ts s.data.toList)) ∧ Below w.heap.size w w' := by
  obtain ⟨m, hm1, hm2, hm3⟩ : ∃ m : Nat, m ≤ ts.length ∧ m ≤ s.size ∧ (m = ts.length ∨ m = s.size) := by
    by_cases h : s.size < ts.length
    · exact ⟨s.size, by omega, by omega, by omega⟩
    · exact ⟨ts.length, by omega, by omega, by omega⟩
  have HWF : Hid (∀ t ∈ ts, t.wf) := hwf
  have HEND : Hid (SF (ts.drop m) (s.data.toList.drop m) = if s.size < ts.length then 2 else if ts.length < s.size then 1 else 0) := by
    show _ = _
    have hsl : s.data.toList.length = s.size := by simp
    by_cases h1 : s.size < ts.length
    · rw [if_pos h1]
      refine SF_long _ _ (List.drop_eq_nil_of_le (by omega)) ?_
      intro h
      have := congrArg List.length h
      simp at this
      omega
    · rw [if_neg h1, show ts.drop m = [] from List.drop_eq_nil_of_le (by omega), SF]
      by_cases h2 : ts.length < s.size
      · rw [if_pos h2, if_neg]
        intro h
        have := congrArg List.length h
        simp at this
        omega
      · rw [if_neg h2, if_pos (List.drop_eq_nil_of_le (by omega))]
  clear hwf
  have HS1 : ∀ i, i < m → ∀ t c, t = ts.getD i Tk.zero → c = s[i]! → Hid (SF (ts.drop i) (s.data.toList.drop i) = if one t c = true then SF (ts.drop (i + 1)) (s.data.toList.drop (i + 1)) else 1) := by
    intro i hi t c ht hc
    show _ = _
    rw [tdrop_cons ts i (by omega), sget s i (by omega), SF, ← ht]
    have : s[i]! = s[i]'(by omega) := by simp [show i < s.size from by omega]
    rw [hc, this]
  have HS : Hid (∀ i, i < m → ∀ t c, t = ts.getD i Tk.zero → c = s[i]! → Hid (SF (ts.drop i) (s.data.toList.drop i) = if one t c = true then SF (ts.drop (i + 1)) (s.data.toList.drop (i + 1)) else 1)) := HS1
  clear HS1
  obtain ⟨V, hV⟩ : ∃ V, V = SF ts s.data.toList := ⟨_, rfl⟩
  have HV : Hid (V = SF ts s.data.toList) := hV
  rw [← hV]
  clear hV
  have hm3' : ((s.size : Int) < ts.length ∧ m = s.size ∧ decide ((s.size : Int) < ts.length) = true ∧ decide (s.size < ts.length) = true) ∨ ((ts.length : Int) ≤ s.size ∧ m = ts.length ∧ decide ((s.size : Int) < ts.length) = false ∧ decide (s.size < ts.length) = false) := by
    rcases (show s.size < ts.length ∨ ts.length ≤ s.size from by omega) with h | h
    · exact .inl ⟨by omega, by omega, by simp; omega, by simp; omega⟩
    · exact .inr ⟨by omega, by omega, by simp; omega, by simp; omega⟩
  clear hm3
  rcases hm3' with ⟨hcmp, hme, hdz, hdn⟩ | ⟨hcmp, hme, hdz, hdn⟩
  all_goals
    go_enter Try.func15, Try.ntmps15
    go_wp2_with fail
  all_goals
    go_loopw [6] (fun iv wr => ∃ i : Nat, i ≤ m ∧ iv = .int .i64 (i : Int) ∧ Hid (SF (ts.drop i) (s.data.toList.drop i) = V) ∧ Below w.heap.size w wr) (fun iv _ => m - (intOf iv).toNat)
    case atStart => exact ⟨0, by omega, rfl, by show _ = _; rw [HV.out]; rfl, Below.refl _ _⟩
    case round =>
      obtain ⟨i, hi, rfl, HP, hbel⟩ := hrel
      by_cases hlt : i < m
      · have hne : ts ≠ [] := by rintro rfl; simp at hm1; omega
        obtain ⟨b, off, ha, _⟩ := hb.resolve_left hne
        have hbw := hb.below (Nat.le_refl _) hbel
        subst ha
        have hil : (i : Int) < (ts.length : Int) := by omega
        have hil2 : (i : Int) < (s.size : Int) := by omega
        have hlt2 : i < s.size := by omega
        obtain ⟨t, ht⟩ : ∃ t, t = ts.getD i Tk.zero := ⟨_, rfl⟩
        obtain ⟨k0, k1, k2, k3, k4, k5, k6⟩ := seven_at (tbs_cells hbw hne) i (by omega) ht
        have htw : t.wf := by
          rw [ht]
          have e : ts.getD i Tk.zero = ts[i]'(by omega) := by simp [List.getD, show i < ts.length from by omega]
          rw [e]; exact HWF.out _ (List.getElem_mem _)
        have HTW : Hid t.wf := htw
        have HT : Hid (t = ts.getD i Tk.zero) := ht
        have HB : Hid (TBs wr (some ⟨b, off, none⟩) ts) := hbw
        have HN : Hid (ts ≠ []) := hne
        have HI : Hid (i < ts.length) := by show _ < _; omega
        obtain ⟨c, hcc⟩ : ∃ c, c = s[i] := ⟨_, rfl⟩
        have hcs : s[i] = c := hcc.symm
        have H1 := HS.out i hlt t c ht (by rw [hcc]; simp [hlt2])
        have hx := H1.out
        rw [HP.out] at hx
        have HX : Hid (V = if one t c = true then SF (ts.drop (i + 1)) (s.data.toList.drop (i + 1)) else 1) := hx
        have HBL : Hid (Below w.heap.size w wr) := hbel
        have hsz := hbel.size
        clear ht hbw hb hne hcc hx H1 htw hbel HP
        cases hone : one t c with
        | true =>
          have HX2 : Hid (SF (ts.drop (i + 1)) (s.data.toList.drop (i + 1)) = V) := by show _ = _; rw [HX.out, hone, if_pos rfl]
          go_wp2_with fail
          go_region_held3 (fun w' => w'.cell? ⟨b, off + i * 7, none⟩ = some (.int .i64 t.kind) ∧ w'.cell? ⟨b, off + i * 7 + 1, none⟩ = some (.int .u8 t.b) ∧ w'.cell? ⟨b, off + i * 7 + 2, none⟩ = some (.int .u64 t.s0) ∧ w'.cell? ⟨b, off + i * 7 + 3, none⟩ = some (.int .u64 t.s1) ∧
        w'.cell? ⟨b, off + i * 7 + 4, none⟩ = some (.int .u64 t.s2) ∧ w'.cell? ⟨b, off + i * 7 + 5, none⟩ = some (.int .u64 t.s3) ∧ w'.cell? ⟨b, off + i * 7 + 6, none⟩ = some (.bool t.neg)) (go_keep)
            ((go_at_call 29; refine (one_any t HTW.out c _).mono ?_; rintro e w5 ⟨rfl, hb5⟩
              have hbd : Below wr.heap.size wr w5 := ((Below.refl _ _).drew).trans hb5
              obtain ⟨q0, q1, q2, q3, q4, q5, q6⟩ := seven_at (tbs_cells (HB.out.below (Nat.le_refl _) hbd) HN.out) i HI.out HT.out))
          go_wp2_with fail
          go_roundw
          case rel => exact ⟨i + 1, by omega, by go_num, HX2, HBL.out.trans (hbd.mono (by omega))⟩
          case measure => simp [intOf]; omega
        | false =>
          have HX2 : Hid (V = 1) := by show _ = _; rw [HX.out, hone, if_neg (by decide)]
          go_wp2_with fail
          go_region_held3 (fun w' => w'.cell? ⟨b, off + i * 7, none⟩ = some (.int .i64 t.kind) ∧ w'.cell? ⟨b, off + i * 7 + 1, none⟩ = some (.int .u8 t.b) ∧ w'.cell? ⟨b, off + i * 7 + 2, none⟩ = some (.int .u64 t.s0) ∧ w'.cell? ⟨b, off + i * 7 + 3, none⟩ = some (.int .u64 t.s1) ∧
        w'.cell? ⟨b, off + i * 7 + 4, none⟩ = some (.int .u64 t.s2) ∧ w'.cell? ⟨b, off + i * 7 + 5, none⟩ = some (.int .u64 t.s3) ∧ w'.cell? ⟨b, off + i * 7 + 6, none⟩ = some (.bool t.neg)) (go_keep)
            ((go_at_call 29; refine (one_any t HTW.out c _).mono ?_; rintro e w5 ⟨rfl, hb5⟩
              have hbd : Below wr.heap.size wr w5 := ((Below.refl _ _).drew).trans hb5
              obtain ⟨q0, q1, q2, q3, q4, q5, q6⟩ := seven_at (tbs_cells (HB.out.below (Nat.le_refl _) hbd) HN.out) i HI.out HT.out))
          go_wp2_with fail
          go_ret
          exact ⟨ret_int HX2.out.symm, HBL.out.trans (hbd.mono (by omega))⟩
      · obtain rfl : i = m := by omega
        have HX : Hid (V = if s.size < ts.length then 2 else if ts.length < s.size then 1 else 0) := by show _ = _; rw [← HEND.out, HP.out]
        clear HEND HP hb HS
        subst hme
        by_cases hgt : (ts.length : Int) < (s.size : Int)
        · go_wp2_with fail
          go_ret
          exact ⟨ret_int (by rw [HX.out]; (repeat' split) <;> omega), hbel⟩
        · have hgt' : (s.size : Int) ≤ (ts.length : Int) := by omega
          go_wp2_with fail
          go_ret
          exact ⟨ret_int (by rw [HX.out]; (repeat' split) <;> omega), hbel⟩
end Go.Proofs.Qxb6603216a
