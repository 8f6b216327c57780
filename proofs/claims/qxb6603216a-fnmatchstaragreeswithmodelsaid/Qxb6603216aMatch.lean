import Derived.Test.Qxb6603216aBase
import Derived.Deep.RegionHeld3
import Derived.Deep.QuietTactic
import Derived.BigQuiet
namespace Go.Proofs.Qxb6603216a
open Go.RowKit

/-- A slice's value leads to these tokens, seven cells each. -/
def TBs (w : World) (a : Option Addr) (ts : List Tk) : Prop :=
  ts = [] ∨ ∃ b off, a = some ⟨b, off, none⟩ ∧ ∀ i, i < ts.length → ∀ j, j < 7 → w.cell? ⟨b, off + i * 7 + j, none⟩ = some ((ts.getD i Tk.zero).cellAt j)

theorem cell_lt {w : World} {p : Addr} {v : Value} (h : w.cell? p = some v) : p.block < w.heap.size := by
  by_cases hb : p.block < w.heap.size
  · exact hb
  · have : w.heap[p.block]? = none := by simp; omega
    simp [World.cell?, this] at h

theorem TBs.below {w w' : World} {a : Option Addr} {l : List Tk} (h : TBs w a l) {B : Nat} (hB : w.heap.size ≤ B) (hb : Below B w w') : TBs w' a l := by
  rcases h with h | ⟨b, off, h, hc⟩
  · exact .inl h
  · refine .inr ⟨b, off, h, fun i hi j hj => ?_⟩
    have h1 := hc i hi j hj
    rw [hb.cell (p := ⟨b, off + i * 7 + j, none⟩) (by have := cell_lt h1; simp at this ⊢; omega)]
    exact h1

theorem seven {w : World} {b o : Nat} {t : Tk} (h : ∀ j, j < 7 → w.cell? ⟨b, o + j, none⟩ = some (t.cellAt j)) :
    w.cell? ⟨b, o, none⟩ = some (.int .i64 t.kind) ∧ w.cell? ⟨b, o + 1, none⟩ = some (.int .u8 t.b) ∧ w.cell? ⟨b, o + 2, none⟩ = some (.int .u64 t.s0) ∧ w.cell? ⟨b, o + 3, none⟩ = some (.int .u64 t.s1) ∧
    w.cell? ⟨b, o + 4, none⟩ = some (.int .u64 t.s2) ∧ w.cell? ⟨b, o + 5, none⟩ = some (.int .u64 t.s3) ∧ w.cell? ⟨b, o + 6, none⟩ = some (.bool t.neg) :=
  ⟨h 0 (by omega), h 1 (by omega), h 2 (by omega), h 3 (by omega), h 4 (by omega), h 5 (by omega), h 6 (by omega)⟩

theorem tdrop_cons (l : List Tk) (i : Nat) (h : i < l.length) : l.drop i = l.getD i Tk.zero :: l.drop (i + 1) := by
  rw [List.drop_eq_getElem_cons h]; simp [List.getD, h]

theorem tbs_drop {w : World} {b off : Nat} {ts : List Tk} (hc : ∀ i, i < ts.length → ∀ j, j < 7 → w.cell? ⟨b, off + i * 7 + j, none⟩ = some ((ts.getD i Tk.zero).cellAt j)) (d : Nat) : TBs w (some ⟨b, off + d * 7, none⟩) (ts.drop d) := by
  refine .inr ⟨b, off + d * 7, rfl, fun i hi j hj => ?_⟩
  simp at hi
  have := hc (d + i) (by omega) j hj
  rw [show off + d * 7 + i * 7 + j = off + (d + i) * 7 + j from by omega, this]
  simp [List.getD, List.getElem?_drop]

def MatchC (k : Nat) : Prop := ∀ (ts : List Tk) (a : Option Addr) (cap : Nat) (s : ByteArray) (w : World), ts.length ≤ k → ts.length ≤ 1048576 → ts.length ≤ cap → s.size ≤ 1073741824 → (∀ t ∈ ts, t.wf) → TBs w a ts →
    Calls Try.prog 27 #[.slice a ts.length cap, .string s] w fun e w' => e = .returned (.int .i64 (O ts s.data.toList)) ∧ Below w.heap.size w w'
def StarC (k : Nat) : Prop := ∀ (crosses : Bool) (rest : List Tk) (a : Option Addr) (cap : Nat) (s : ByteArray) (w : World), rest.length ≤ k → rest.length ≤ 1048576 → rest.length ≤ cap → s.size ≤ 1073741824 → (∀ t ∈ rest, t.wf) → TBs w a rest →
    Calls Try.prog 30 #[.bool crosses, .slice a rest.length cap, .string s] w fun e w' => e = .returned (.int .i64 (starO crosses rest (O rest) (tabO rest).2 s.data.toList)) ∧ Below w.heap.size w w'

theorem ret_int {a b : Int} (h : a = b) : Ending.returned (.int .i64 a) = .returned (.int .i64 b) := by rw [h]

theorem str_nil {s : ByteArray} (h : s.size = 0) : s.data.toList = [] := by
  apply List.eq_nil_of_length_eq_zero
  simpa using h
theorem str_cons {s : ByteArray} (h : 0 < s.size) : s.data.toList = s[0] :: (s.extract 1 s.size).data.toList := by
  rw [Lib.extract_to_end]
  exact List.drop_eq_getElem_cons (i := 0) (l := s.data.toList) (by simpa using h)

theorem one_k1 (b s0 s1 s2 s3 : Int) (neg : Bool) (c : UInt8) : one ⟨1, b, s0, s1, s2, s3, neg⟩ c = decide (c ≠ 47) := by
  unfold one
  rw [if_neg (show ¬ (1 : Int) = 0 from by decide), if_pos (show (1 : Int) = 1 from rfl)]
theorem one_k2 (b s0 s1 s2 s3 : Int) (neg : Bool) (c : UInt8) : one ⟨2, b, s0, s1, s2, s3, neg⟩ c = (decide (c ≠ 47) && (Tk.has ⟨2, b, s0, s1, s2, s3, neg⟩ c != neg)) := by
  unfold one
  rw [if_neg (show ¬ (2 : Int) = 0 from by decide), if_neg (show ¬ (2 : Int) = 1 from by decide), if_pos (show (2 : Int) = 2 from rfl)]
theorem one_ko {k : Int} (b s0 s1 s2 s3 : Int) (neg : Bool) (c : UInt8) (h0 : ¬ k = 0) (h1 : ¬ k = 1) (h2 : ¬ k = 2) : one ⟨k, b, s0, s1, s2, s3, neg⟩ c = true := by
  unfold one
  rw [if_neg h0, if_neg h1, if_neg h2]

theorem has_z {x : Int} (hx0 : 0 ≤ x) (hx1 : x ≤ 18446744073709551615) {b off : Nat} {c : UInt8} {w : World} {bt : Bool} (hbt : bt = x.toNat.testBit (c.toNat % 64))
   (hc0 : w.cell? ⟨b, off + c.toNat / 64, none⟩ = some (.int .u64 x)) :
    Calls Try.prog 32 #[.pointer (some ⟨b, off, none⟩), .int .u8 (c.toNat : Int)] w fun e w' => e = .returned (.bool bt) ∧ w' = w := by
  refine (has_any x hx0 hx1 b off c w hc0).mono ?_
  rintro e w' ⟨rfl, rfl⟩
  exact ⟨by rw [hbt], rfl⟩

set_option maxRecDepth 100000 in
set_option maxHeartbeats 4000000 in
theorem match_step (k : Nat) (hS : ∀ k', k' < k → StarC k') : MatchC k := by
  intro ts a cap s w hk hlen hcap hs hwf hb
  have HSC : Hid (∀ k', k' < k → StarC k') := hS
  have HWF : Hid (∀ t ∈ ts, t.wf) := hwf
  clear hS hwf
  go_enter Try.func27, Try.ntmps27
  go_wp2_with fail
  go_loopw [1, 10] (fun sv iv wr => ∃ (i : Nat) (s' : ByteArray), i ≤ ts.length ∧ iv = .int .i64 (i : Int) ∧ sv = .string s' ∧ s'.size ≤ 1073741824 ∧ Hid (O (ts.drop i) s'.data.toList = O ts s.data.toList) ∧ Below w.heap.size w wr) (fun _ iv _ => ts.length - (intOf iv).toNat)
  case atStart => exact ⟨0, s, by omega, rfl, rfl, hs, rfl, Below.refl _ _⟩
  case round =>
    obtain ⟨i, s', hi, rfl, rfl, hs', HO, hbel⟩ := hrel
    by_cases hlt : i < ts.length
    · obtain ⟨b, off, ha, hc0⟩ := hb.resolve_left (by rintro rfl; simp at hlt)
      have hbw := (hb.below (Nat.le_refl _) hbel).resolve_left (by rintro rfl; simp at hlt)
      subst ha
      have hcw : ∀ i, i < ts.length → ∀ j, j < 7 → wr.cell? ⟨b, off + i * 7 + j, none⟩ = some ((ts.getD i Tk.zero).cellAt j) := by
        obtain ⟨b', off', h, hc'⟩ := hbw
        cases h
        exact hc'
      have hil : (i : Int) < (ts.length : Int) := by omega
      obtain ⟨t, ht⟩ : ∃ t, t = ts.getD i Tk.zero := ⟨_, rfl⟩
      have h7 := hcw i hlt
      rw [← ht] at h7
      obtain ⟨k0, k1, k2, k3, k4, k5, k6⟩ := seven h7
      have htwf : t.wf := by
        rw [ht]
        have e : ts.getD i Tk.zero = ts[i] := by simp [List.getD, hlt]
        rw [e]; exact HWF.out _ (List.getElem_mem _)
      have hod := HO.out
      rw [tdrop_cons ts i hlt, ← ht] at hod
      have HOD : Hid (O (t :: ts.drop (i + 1)) s'.data.toList = O ts s.data.toList) := hod
      have HCW : Hid (∀ i, i < ts.length → ∀ j, j < 7 → wr.cell? ⟨b, off + i * 7 + j, none⟩ = some ((ts.getD i Tk.zero).cellAt j)) := hcw
      have HTW : Hid t.wf := htwf
      have hbsz := hbel.size
      clear ht h7 htwf hod hc0 hbw hcw hb HO
      by_cases hst : t.kind = 3 ∨ t.kind = 4
      · have HR : Hid (O ts s.data.toList = starO (t.kind == 4) (ts.drop (i + 1)) (O (ts.drop (i + 1))) (tabO (ts.drop (i + 1))).2 s'.data.toList) := by
          show _ = _
          rw [← HOD.out, O_star _ _ hst]
        obtain ⟨kd, hkd⟩ : ∃ kd, kd = t.kind := ⟨_, rfl⟩
        rw [← hkd] at k0 hst HR
        clear hkd
        have hi1 : (i : Int) + 1 ≤ (ts.length : Int) := by omega
        have hi2 : (0 : Int) ≤ (i : Int) + 1 := by omega
        have hw1 : IntKind.i64.wrap ((i : Int) + 1) = (i : Int) + 1 := by rw [IntKind.wrap_i64]; omega
        have hlc : (ts.length : Int) ≤ (cap : Int) := by omega
        have hrl : (ts.drop (i + 1)).length = ts.length - (i + 1) := by simp
        have HRL : Hid ((ts.drop (i + 1)).length = ts.length - (i + 1)) := hrl
        have HRW : Hid (∀ t ∈ ts.drop (i + 1), t.wf) := fun t ht => HWF.out t (List.mem_of_mem_drop ht)
        clear hrl
        have hg : (kd == 3) = true ∧ (kd == 4) = false ∨ (kd == 3) = false ∧ (kd == 4) = true := by
          rcases hst with rfl | rfl
          · exact .inl ⟨rfl, rfl⟩
          · exact .inr ⟨rfl, rfl⟩
        clear hst
        have HCALL : Hid (∀ W ad n c, n = ts.length - (i + 1) → c = cap - (i + 1) → Below wr.heap.size wr W → TBs wr ad (ts.drop (i + 1)) → Calls Try.prog 30 #[.bool (kd == 4), .slice ad n c, .string s'] W fun e w' => e = .returned (.int .i64 (O ts s.data.toList)) ∧ Below W.heap.size W w') := by
          rintro W ad n c rfl rfl hB hT
          have := HSC.out (ts.length - (i + 1)) (by omega) (kd == 4) (ts.drop (i + 1)) ad (cap - (i + 1)) s' W (by rw [HRL.out]; exact Nat.le_refl _) (by rw [HRL.out]; omega) (by rw [HRL.out]; omega) hs' HRW.out (hT.below (Nat.le_refl _) hB)
          rw [← HR.out, HRL.out] at this
          exact this
        have HT : Hid (TBs wr (some ⟨b, off + (i + 1) * 7, none⟩) (ts.drop (i + 1))) := tbs_drop HCW.out (i + 1)
        clear HR
        by_cases hce : cap = i + 1
        · have HT2 : Hid (∀ ad, TBs wr ad (ts.drop (i + 1))) := fun ad => .inl (List.eq_nil_of_length_eq_zero (by rw [HRL.out]; omega))
          subst hce
          rcases hg with ⟨g3, g4⟩ | ⟨g3, g4⟩
          all_goals
            rw [g4] at HCALL
            go_wp2_with fail
            go_region_held3 (fun w' => w'.cell? ⟨wr.heap.size, 0, none⟩ = some (.int .i64 kd)) (go_keep)
              ((go_at_call 30; refine (HCALL.out _ _ _ _ (by omega) (by omega) ((Below.refl _ _).alloc (Nat.le_refl _) _).drew (HT2.out _)).mono ?_; rintro e w5 ⟨rfl, hb5⟩; have hk5 : w5.cell? ⟨wr.heap.size, 0, none⟩ = some (.int .i64 kd) := (hb5.cell (p := ⟨wr.heap.size, 0, none⟩) (by simp)).trans (by simp)))
            go_wp2_with fail
            go_ret
            exact ⟨rfl, (hbel.trans (((Below.refl _ _).alloc hbsz _).drew)).trans (hb5.mono (by simp; omega))⟩
        · have hce' : ¬ (cap : Int) = (i : Int) + 1 := by omega
          rcases hg with ⟨g3, g4⟩ | ⟨g3, g4⟩
          all_goals
            rw [g4] at HCALL
            go_wp2_with fail
            go_region_held3 (fun w' => w'.cell? ⟨wr.heap.size, 0, none⟩ = some (.int .i64 kd)) (go_keep)
              ((go_at_call 30; refine (HCALL.out _ _ _ _ rfl rfl ((Below.refl _ _).alloc (Nat.le_refl _) _).drew HT.out).mono ?_; rintro e w5 ⟨rfl, hb5⟩; have hk5 : w5.cell? ⟨wr.heap.size, 0, none⟩ = some (.int .i64 kd) := (hb5.cell (p := ⟨wr.heap.size, 0, none⟩) (by simp)).trans (by simp)))
            go_wp2_with fail
            go_ret
            exact ⟨rfl, (hbel.trans (((Below.refl _ _).alloc hbsz _).drew)).trans (hb5.mono (by simp; omega))⟩
      · have g3 : (t.kind == 3) = false := by simp; omega
        have g4 : (t.kind == 4) = false := by simp; omega
        have hone := O_one (ts.drop (i + 1)) s'.data.toList hst
        rw [HOD.out] at hone
        clear hst HOD
        by_cases hse : s'.size = 0
        · have HE : Hid (O ts s.data.toList = 2) := by show _ = _; rw [hone, str_nil hse]; rfl
          have hem : s'.toList.isEmpty = true := by rw [ByteArray.toList_eq, str_nil hse]; rfl
          clear hone
          go_wp2_with fail
          go_ret
          exact ⟨ret_int HE.out.symm, hbel.trans ((Below.refl _ _).alloc hbsz _)⟩
        · have hpos : 0 < s'.size := by omega
          have hcons := str_cons hpos
          have hem : s'.toList.isEmpty = false := by rw [ByteArray.toList_eq, hcons]; rfl
          rw [hcons] at hone
          obtain ⟨c, hcc⟩ : ∃ c, c = s'[0] := ⟨_, rfl⟩
          rw [← hcc] at hone
          have H1 : Hid (one t c = true → O (ts.drop (i + 1)) (s'.extract 1 s'.size).data.toList = O ts s.data.toList) := by
            intro h; rw [hone]; simp only [oneO]; rw [if_pos h]
          have H0 : Hid (one t c = false → O ts s.data.toList = 1) := by
            intro h; rw [hone]; simp only [oneO]; rw [if_neg (by rw [h]; decide)]
          have hsx : (s'.extract 1 s'.size).size ≤ 1073741824 := by
            have : (s'.extract 1 s'.size).size = s'.size - 1 := by simp
            omega
          have HS1 : Hid ((s'.extract 1 s'.size).size ≤ 1073741824) := hsx
          have hposz : (0 : Int) < (s'.size : Int) := by omega
          have h1z : (1 : Int) ≤ (s'.size : Int) := by omega
          have hcs : s'[0] = c := hcc.symm
          have hcl : (c.toNat : Int) ≤ 255 := by have := c.toNat_lt; omega
          clear hone hcons hcc hsx
          obtain ⟨kind, tb, s0, s1, s2, s3, neg⟩ := t
          dsimp only at *
          rcases (show kind = 0 ∨ kind = 1 ∨ kind = 2 ∨ (¬ kind = 0 ∧ ¬ kind = 1 ∧ ¬ kind = 2) from by omega) with rfl | rfl | rfl | ⟨q0, q1, q2⟩
          · by_cases hb' : (c.toNat : Int) = tb
            · have HO1 : Hid (O (ts.drop (i + 1)) (s'.extract 1 s'.size).data.toList = O ts s.data.toList) := H1.out (by unfold one; rw [if_pos rfl]; simpa using hb')
              have hbb : ((c.toNat : Int) != tb) = false := by simpa using hb'
              clear hb'
              go_wp2_with fail
              go_roundw
              case rel => exact ⟨i + 1, _, by omega, by go_num, rfl, HS1.out, HO1, hbel.trans ((Below.refl _ _).alloc hbsz _)⟩
              case measure => simp [intOf]; omega
            · have HO0 : Hid (O ts s.data.toList = 1) := H0.out (by unfold one; rw [if_pos rfl]; simpa using hb')
              have hbb : ((c.toNat : Int) != tb) = true := by simpa using hb'
              clear hb'
              go_wp2_with fail
              go_ret
              exact ⟨ret_int HO0.out.symm, hbel.trans ((Below.refl _ _).alloc hbsz _)⟩
          · by_cases hb' : c = 47
            · have HO0 : Hid (O ts s.data.toList = 1) := H0.out (by rw [one_k1]; simpa using hb')
              have hbb : ((c.toNat : Int) == 47) = true := by subst hb'; decide
              clear hb'
              go_wp2_with fail
              go_ret
              exact ⟨ret_int HO0.out.symm, hbel.trans ((Below.refl _ _).alloc hbsz _)⟩
            · have HO1 : Hid (O (ts.drop (i + 1)) (s'.extract 1 s'.size).data.toList = O ts s.data.toList) := H1.out (by rw [one_k1]; simpa using hb')
              have hbb : ((c.toNat : Int) == 47) = false := byte_ne hb'
              clear hb'
              go_wp2_with fail
              go_roundw
              case rel => exact ⟨i + 1, _, by omega, by go_num, rfl, HS1.out, HO1, hbel.trans ((Below.refl _ _).alloc hbsz _)⟩
              case measure => simp [intOf]; omega
          · have hwd := word_bd HTW.out (c.toNat / 64)
            have hcx := word_cell ⟨2, tb, s0, s1, s2, s3, neg⟩ (c.toNat / 64) (by omega)
            have HH : Hid (Tk.has ⟨2, tb, s0, s1, s2, s3, neg⟩ c = (Tk.word ⟨2, tb, s0, s1, s2, s3, neg⟩ (c.toNat / 64)).toNat.testBit (c.toNat % 64)) := rfl
            obtain ⟨x, hx⟩ : ∃ x, x = Tk.word ⟨2, tb, s0, s1, s2, s3, neg⟩ (c.toNat / 64) := ⟨_, rfl⟩
            rw [← hx] at hcx HH hwd
            obtain ⟨hx0, hx1⟩ := hwd
            obtain ⟨bt, hbt⟩ : ∃ bt, bt = x.toNat.testBit (c.toNat % 64) := ⟨_, rfl⟩
            rw [← hbt] at HH
            have HBT : Hid (bt = x.toNat.testBit (c.toNat % 64)) := hbt
            have HX : Hid ((0 ≤ x ∧ x ≤ 18446744073709551615)) := ⟨hx0, hx1⟩
            have hcell : ∀ o, (wr.alloc (.cells #[.int .i64 2, .int .u8 tb, .int .u64 s0, .int .u64 s1, .int .u64 s2, .int .u64 s3, .bool neg] o)).cell? ⟨wr.heap.size, 2 + c.toNat / 64, none⟩ = some (.int .u64 x) := by
              intro o
              simp
              exact hcx
            clear hx hbt hcx hx0 hx1
            by_cases hb' : c = 47
            · have HO0 : Hid (O ts s.data.toList = 1) := H0.out (by rw [one_k2]; simp [hb'])
              have hbb : ((c.toNat : Int) == 47) = true := by subst hb'; decide
              clear hb'
              go_wp2_with fail
              go_quiet (fail)
              go_wp2_with fail
              go_ret
              exact ⟨ret_int HO0.out.symm, below_drewN (hbel.trans ((Below.refl _ _).alloc hbsz _)) _⟩
            · have hbb : ((c.toNat : Int) == 47) = false := byte_ne hb'
              cases hbn : (bt == neg) with
              | true =>
                have HO0 : Hid (O ts s.data.toList = 1) := H0.out (by rw [one_k2, HH.out]; simp only [bne, hbn]; simp)
                clear hb'
                go_wp2_with fail
                go_quiet ((go_at_call 32; exact Calls.quiet_of_same (has_z HX.out.1 HX.out.2 HBT.out (by simp [hcell]))))
                go_wp2_with fail
                go_ret
                exact ⟨ret_int HO0.out.symm, below_drewN (hbel.trans ((Below.refl _ _).alloc hbsz _)) _⟩
              | false =>
                have HO1 : Hid (O (ts.drop (i + 1)) (s'.extract 1 s'.size).data.toList = O ts s.data.toList) := H1.out (by rw [one_k2, HH.out]; simp only [bne, hbn]; simp [hb'])
                clear hb'
                go_wp2_with fail
                go_quiet ((go_at_call 32; exact Calls.quiet_of_same (has_z HX.out.1 HX.out.2 HBT.out (by simp [hcell]))))
                go_wp2_with fail
                go_roundw
                case rel => exact ⟨i + 1, _, by omega, by go_num, rfl, HS1.out, HO1, below_drewN (hbel.trans ((Below.refl _ _).alloc hbsz _)) _⟩
                case measure => simp [intOf]; omega
          · have HO1 : Hid (O (ts.drop (i + 1)) (s'.extract 1 s'.size).data.toList = O ts s.data.toList) := H1.out (one_ko _ _ _ _ _ _ _ q0 q1 q2)
            have p0 : (kind == 0) = false := by simpa using q0
            have p1 : (kind == 1) = false := by simpa using q1
            have p2 : (kind == 2) = false := by simpa using q2
            clear q0 q1 q2
            go_wp2_with fail
            go_roundw
            case rel => exact ⟨i + 1, _, by omega, by go_num, rfl, HS1.out, HO1, hbel.trans ((Below.refl _ _).alloc hbsz _)⟩
            case measure => simp [intOf]; omega
    · have hil : (ts.length : Int) ≤ (i : Int) := by omega
      have hod := HO.out
      rw [List.drop_of_length_le (by omega), O_nil] at hod
      by_cases hse : s'.size = 0
      · have HE : Hid (O ts s.data.toList = 0) := by show _ = _; rw [← hod, if_pos (str_nil hse)]
        have hem : s'.toList.isEmpty = true := by rw [ByteArray.toList_eq, str_nil hse]; rfl
        clear hod
        go_wp2_with fail
        go_ret
        exact ⟨ret_int HE.out.symm, hbel⟩
      · have hpos : 0 < s'.size := by omega
        have HE : Hid (O ts s.data.toList = 1) := by show _ = _; rw [← hod, if_neg (by rw [str_cons hpos]; simp)]
        have hem : s'.toList.isEmpty = false := by rw [ByteArray.toList_eq, str_cons hpos]; rfl
        clear hod
        go_wp2_with fail
        go_ret
        exact ⟨ret_int HE.out.symm, hbel⟩
end Go.Proofs.Qxb6603216a
