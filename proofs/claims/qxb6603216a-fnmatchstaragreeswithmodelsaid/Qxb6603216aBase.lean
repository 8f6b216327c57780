import Derived.Test.Qxb6603216aShelf
import Derived.Test.Qxb6603216aSound2
import Derived.WalkKit
import Derived.WalkLawsBesides
import Derived.WalkSpells
import Derived.Laws.BitsAllLaws
import Derived.Laws.Bits64
namespace Go.Proofs.Qxb6603216a
open Go.RowKit

theorem testBit_div (X i : Nat) : X.testBit i = decide (X / 2 ^ i % 2 = 1) := Nat.testBit_eq_decide_div_mod_eq

theorem bit_has (x : Int) (hx0 : 0 ≤ x) (hx1 : x ≤ 18446744073709551615) (i : Nat) (hi : i < 64) :
    (bits BinOp.and IntKind.u64 x (IntKind.u64.wrap (2 ^ i)) != 0) = x.toNat.testBit i := by
  have h2 : (2 : Nat) ^ i < 18446744073709551616 := Nat.lt_of_lt_of_le (Nat.pow_lt_pow_right (by omega) hi) (by decide)
  have hp0 : 0 < (2 : Nat) ^ i := Nat.pow_pos (by omega)
  have hcast : ((2 ^ i : Nat) : Int) = (2 : Int) ^ i := by simp
  have hz0 : (0 : Int) < (2 : Int) ^ i := by rw [← hcast]; exact Int.ofNat_lt.2 hp0
  have hz1 : (2 : Int) ^ i < 18446744073709551616 := by rw [← hcast]; exact Int.ofNat_lt.2 h2
  have hw : IntKind.u64.wrap ((2 : Int) ^ i) = (2 : Int) ^ i := by
    rw [IntKind.wrap_u64]
    exact Int.emod_eq_of_lt (by omega) hz1
  have e : ((2 : Int) ^ i).toNat = 2 ^ i := by rw [← hcast, Int.toNat_natCast]
  rw [hw, u64_and x ((2 : Int) ^ i) hx0 (by omega) (by omega) hz1, e, nat_bit, testBit_div]
  have hp : 0 < (2 : Nat) ^ i := by omega
  have hm : x.toNat / 2 ^ i % 2 = 0 ∨ x.toNat / 2 ^ i % 2 = 1 := by omega
  rcases hm with h | h
  · rw [h]; simp
  · rw [h]
    have : (((1 * 2 ^ i : Nat) : Int) != 0) = true := by simp; omega
    rw [this]; simp

theorem bit_one (x : Int) (hx0 : 0 ≤ x) (hx1 : x ≤ 18446744073709551615) (i : Nat) :
    (bits BinOp.and IntKind.u64 (x / 2 ^ i) 1 == 1) = x.toNat.testBit i := by
  have e0 : x / 2 ^ i = ((x.toNat / 2 ^ i : Nat) : Int) := by
    rw [Int.natCast_ediv]
    simp
    rw [Int.max_eq_left hx0]
  have hle : x.toNat / 2 ^ i ≤ x.toNat := Nat.div_le_self _ _
  rw [e0, show (1 : Int) = ((1 : Nat) : Int) from rfl, u64_and_nat _ 1 (by omega) (by decide), nat_mask1, testBit_div]
  have hm : x.toNat / 2 ^ i % 2 = 0 ∨ x.toNat / 2 ^ i % 2 = 1 := by omega
  rcases hm with h | h <;> rw [h] <;> simp

/-- The fields are numbers of their kinds. -/
def Tk.wf (t : Tk) : Prop := (0 ≤ t.s0 ∧ t.s0 ≤ 18446744073709551615) ∧ (0 ≤ t.s1 ∧ t.s1 ≤ 18446744073709551615) ∧ (0 ≤ t.s2 ∧ t.s2 ≤ 18446744073709551615) ∧ (0 ≤ t.s3 ∧ t.s3 ≤ 18446744073709551615)

theorem word_bd {t : Tk} (h : t.wf) (q : Nat) : 0 ≤ t.word q ∧ t.word q ≤ 18446744073709551615 := by
  obtain ⟨h0, h1, h2, h3⟩ := h
  unfold Tk.word
  (repeat' split) <;> assumption

/-- A token's value, its seven cells. -/
def Tk.arr (t : Tk) : Array Value := #[.int .i64 t.kind, .int .u8 t.b, .int .u64 t.s0, .int .u64 t.s1, .int .u64 t.s2, .int .u64 t.s3, .bool t.neg]
def Tk.cellAt (t : Tk) (j : Nat) : Value := t.arr.getD j (.bool false)

theorem word_cell (t : Tk) (q : Nat) (h : q < 4) : [Value.int .i64 t.kind, .int .u8 t.b, .int .u64 t.s0, .int .u64 t.s1, .int .u64 t.s2, .int .u64 t.s3, .bool t.neg][2 + q]? = some (.int .u64 (t.word q)) := by
  rcases q with _ | _ | _ | _ | q
  all_goals first | rfl | omega

theorem isl_any (t : Tk) (w : World) :
    Calls Try.prog 26 #[.agg #[.int .i64 t.kind, .int .u8 t.b, .int .u64 t.s0, .int .u64 t.s1, .int .u64 t.s2, .int .u64 t.s3, .bool t.neg]] w fun e w' => e = .returned (.bool (isSlash t)) ∧ Below w.heap.size w w' := by
  cases h : (t.kind == 0) with
  | true =>
    have e : isSlash t = (t.b == 47) := by unfold isSlash; rw [h]; rfl
    rw [e]
    go_enter Try.func26, Try.ntmps26
    go_wp2_with fail
    go_ret
    exact ⟨rfl, (Below.refl _ _).alloc (Nat.le_refl _) _⟩
  | false =>
    have e : isSlash t = false := by unfold isSlash; rw [h]; rfl
    rw [e]
    go_enter Try.func26, Try.ntmps26
    go_wp2_with fail
    go_ret
    exact ⟨rfl, (Below.refl _ _).alloc (Nat.le_refl _) _⟩

theorem ret_bool {a b : Bool} (h : a = b) : Ending.returned (.bool a) = .returned (.bool b) := by rw [h]

theorem has_any (x : Int) (hx0 : 0 ≤ x) (hx1 : x ≤ 18446744073709551615) (b off : Nat) (c : UInt8) (w : World)
   (hc0 : w.cell? ⟨b, off + c.toNat / 64, none⟩ = some (.int .u64 x)) :
    Calls Try.prog 32 #[.pointer (some ⟨b, off, none⟩), .int .u8 (c.toNat : Int)] w fun e w' => e = .returned (.bool (x.toNat.testBit (c.toNat % 64))) ∧ w = w' := by
  have hl : (c.toNat : Int) ≤ 255 := by have := c.toNat_lt; omega
  have HB : Hid ((bits BinOp.and IntKind.u64 x (IntKind.u64.wrap (2 ^ (c.toNat % 64))) != 0) = x.toNat.testBit (c.toNat % 64)) := bit_has x hx0 hx1 _ (Nat.mod_lt _ (by omega))
  go_enter Try.func32, Try.ntmps32
  go_wp2_with fail
  go_ret
  exact ⟨ret_bool HB.out, rfl⟩

theorem byte_ne {c d : UInt8} (h : c ≠ d) : ((c.toNat : Int) == (d.toNat : Int)) = false := by
  refine beq_eq_false_iff_ne.2 fun h2 => h (UInt8.toNat_inj.1 (by omega))

set_option maxHeartbeats 1000000 in
theorem one_any (t : Tk) (hwf : t.wf) (c : UInt8) (w : World) :
    Calls Try.prog 29 #[.agg #[.int .i64 t.kind, .int .u8 t.b, .int .u64 t.s0, .int .u64 t.s1, .int .u64 t.s2, .int .u64 t.s3, .bool t.neg], .int .u8 (c.toNat : Int)] w fun e w' => e = .returned (.bool (one t c)) ∧ Below w.heap.size w w' := by
  have hl : (c.toNat : Int) ≤ 255 := by have := c.toNat_lt; omega
  have hwd := word_bd hwf (c.toNat / 64)
  have hcx := word_cell t (c.toNat / 64) (by omega)
  have HB : Hid ((bits BinOp.and IntKind.u64 (t.word (c.toNat / 64) / 2 ^ (c.toNat % 64)) 1 == 1) = (t.word (c.toNat / 64)).toNat.testBit (c.toNat % 64)) := bit_one _ hwd.1 hwd.2 _
  have HO : Hid (one t c = if t.kind = 0 then decide ((c.toNat : Int) = t.b) else if t.kind = 1 then decide (c ≠ 47) else if t.kind = 2 then (decide (c ≠ 47) && (t.has c != t.neg)) else true) := rfl
  have HH : Hid (t.has c = (t.word (c.toNat / 64)).toNat.testBit (c.toNat % 64)) := rfl
  obtain ⟨kind, b, s0, s1, s2, s3, neg⟩ := t
  obtain ⟨x, hx⟩ : ∃ x, x = Tk.word ⟨kind, b, s0, s1, s2, s3, neg⟩ (c.toNat / 64) := ⟨_, rfl⟩
  rw [← hx] at hcx HB HH hwd
  obtain ⟨hx0, hx1⟩ := hwd
  clear hx hwf
  dsimp only at hcx HO HH ⊢
  obtain ⟨o, ho⟩ : ∃ o, o = one ⟨kind, b, s0, s1, s2, s3, neg⟩ c := ⟨_, rfl⟩
  rw [← ho]
  rw [← ho] at HO
  clear ho
  rcases (show kind = 0 ∨ kind = 1 ∨ kind = 2 ∨ (¬ kind = 0 ∧ ¬ kind = 1 ∧ ¬ kind = 2) from by omega) with rfl | rfl | rfl | ⟨h0, h1, h2⟩
  · clear hcx HH HB
    go_enter Try.func29, Try.ntmps29
    go_wp2_with fail
    go_ret
    refine ⟨ret_bool ?_, (Below.refl _ _).alloc (Nat.le_refl _) _⟩
    rw [HO.out]
    by_cases h : (c.toNat : Int) = b <;> simp [h]
  · clear hcx HH HB
    go_enter Try.func29, Try.ntmps29
    go_wp2_with fail
    go_ret
    refine ⟨ret_bool ?_, (Below.refl _ _).alloc (Nat.le_refl _) _⟩
    rw [HO.out]
    by_cases h : c = 47
    · subst h; simp
    · have h3 : ((c.toNat : Int) != 47) = true := by have := byte_ne h; simpa [bne] using this
      rw [h3]; simp [h]
  · by_cases h : c = 47
    · have HO2 : Hid (o = false) := by
        show o = false
        rw [HO.out]; simp [h]
      have h47 : ((c.toNat : Int) == 47) = true := by subst h; decide
      clear hcx HH HB HO h
      go_enter Try.func29, Try.ntmps29
      go_wp2_with fail
      go_ret
      exact ⟨ret_bool HO2.out.symm, (Below.refl _ _).alloc (Nat.le_refl _) _⟩
    · have HO2 : Hid (o = (x.toNat.testBit (c.toNat % 64) != neg)) := by
        show o = _
        rw [HO.out, HH.out]; simp [h]
      have h47 : ((c.toNat : Int) == 47) = false := byte_ne h
      clear HH HO h
      go_enter Try.func29, Try.ntmps29
      go_wp2_with fail
      go_ret
      refine ⟨ret_bool ?_, (Below.refl _ _).alloc (Nat.le_refl _) _⟩
      rw [HO2.out, ← HB.out]
      rfl
  · have HO2 : Hid (o = true) := by
      show o = true
      rw [HO.out, if_neg h0, if_neg h1, if_neg h2]
    have g0 : (kind == 0) = false := by simpa using h0
    have g1 : (kind == 1) = false := by simpa using h1
    have g2 : (kind == 2) = false := by simpa using h2
    clear hcx HH HB HO h0 h1 h2
    go_enter Try.func29, Try.ntmps29
    go_wp2_with fail
    go_ret
    exact ⟨ret_bool HO2.out.symm, (Below.refl _ _).alloc (Nat.le_refl _) _⟩
end Go.Proofs.Qxb6603216a
