import Derived.Test.Qxb6601854aShelf
import Derived.Test.Qxb6601854aPlain
import Derived.WalkKit
import Derived.WalkLawsBesides
import Derived.Deep.QuietTactic
import Derived.BigQuiet
import Derived.WalkMore
import Derived.WalkSpells
namespace Go.Proofs.Qxb6601854a
open Go.RowKit

theorem enc2 (r : Int) (h0 : 128 ≤ r) (h1 : r ≤ 255) : ∃ c0 c1 : UInt8, Utf8.encode r = ⟨#[c0, c1]⟩ ∧ 128 ≤ c1.toNat := by
  have hv : Utf8.valid r = true := by unfold Utf8.valid; simp; omega
  have hc : ¬ r.toNat < 128 := by omega
  have hd : r.toNat < 2048 := by omega
  refine ⟨UInt8.ofNat (192 + r.toNat / 64), UInt8.ofNat (128 + r.toNat % 64), ?_, ?_⟩
  · unfold Utf8.encode
    simp only [hv, if_true, hc, if_false]
    simp [hd]
  · simp; omega

theorem indexByte_none (l : List UInt8) (c : UInt8) (h : ∀ b ∈ l, b ≠ c) : Lib.indexByte l c = -1 := by
  induction l with
  | nil => rfl
  | cons b l ih =>
    have hb : (b == c) = false := by simpa using h b (by simp)
    have ih' := ih (fun x hx => h x (by simp [hx]))
    simp [Lib.indexByte, hb, ih']

set_option maxRecDepth 100000 in
set_option maxHeartbeats 1000000 in
theorem ir_hi (s : ByteArray) (r : Int) (w : World) (h0 : 128 ≤ r) (h1 : r ≤ 255) (hs : 2 ≤ s.size) (hm : s.size ≤ 100) (ha : ∀ b ∈ s.data.toList, b.toNat < 128) :
    Calls Try.prog 22 #[.string s, .int .i32 r] w fun e w' => e = .returned (.int .i64 (-1)) ∧ ∃ n, w' = w.drewN n := by
  have hv : Lib.validRune r = true := by unfold Lib.validRune; simp; omega
  obtain ⟨c0, c1, he, hc1⟩ := enc2 r h0 h1
  have h1s : 1 < s.size := by omega
  have hs1 : (s[1]'h1s).toNat < 128 := ha _ (by rw [show s[1] = s.data.toList[1]'(by simpa using h1s) from rfl]; exact List.getElem_mem _)
  have hix : Lib.indexByte (List.take (s.size - 2) (List.drop 2 s.data.toList)) ((⟨#[c0, c1]⟩ : ByteArray)[1]'(Nat.lt_succ_self 1)) = -1 := by
    refine indexByte_none _ _ fun b hb heq => ?_
    have := ha b (List.mem_of_mem_drop (List.mem_of_mem_take hb))
    have e : ((⟨#[c0, c1]⟩ : ByteArray)[1]'(Nat.lt_succ_self 1)) = c1 := rfl
    rw [e] at heq
    subst heq
    omega
  have hne : ((s[1].toNat : Int) != (((⟨#[c0, c1]⟩ : ByteArray)[1]'(Nat.lt_succ_self 1)).toNat : Int)) = true := by
    have e : ((⟨#[c0, c1]⟩ : ByteArray)[1]'(Nat.lt_succ_self 1)) = c1 := rfl
    rw [e]; simp; omega
  clear ha hc1 hs1
  have hw2 : IntKind.i64.wrap 2 = 2 := by decide
  have hs2 : (2 : Int) ≤ (s.size : Int) := by omega
  go_enter Try.func22, Try.ntmps22
  go_wp2_with (first | (go_at_call 24; refine (Try.utf8_ValidRune _ _).mono ?_; rintro e w' ⟨rfl, rfl⟩))
  go_step3
  go_wp2_with fail
  refine wp_loop_rounds 1 ?_
  rw [rounds_succ]
  go_wp2_with fail
  go_step3
  go_wp2_with fail
  go_quiet (fail)
  go_wp2_with fail
  generalize hw1 : World.drewN _ nq = w1
  have HW : Hid (_ = w1) := hw1
  clear hw1
  go_quiet ((go_at_call 23; exact Calls.quiet_of_same (Try.strings_IndexByte _ _ _)))
  go_wp2_with fail
  rw [Exit.noGoto_ret]
  go_wp2_with fail
  rw [Exit.noGoto_ret]
  go_wp2_with fail
  go_ret
  refine ⟨rfl, ?_⟩
  rw [← HW.out]
  exact ⟨_, World.drewN_drewN _ _ _⟩

theorem lat_none (s : ByteArray) (r : Int) (h0 : 128 ≤ r) (h1 : r ≤ 255) (ha : ∀ b ∈ s.data.toList, b.toNat < 128) : Lib.indexByte s.data.toList r.toNat.toUInt8 = -1 := by
  refine indexByte_none _ _ fun b hb heq => ?_
  have := ha b hb
  rw [heq] at this
  have e : (r.toNat.toUInt8).toNat = r.toNat % 256 := by simp
  omega

theorem cr_any (s : ByteArray) (r : Int) (w : World) (h0 : 0 ≤ r) (h1 : r ≤ 255) (hs : 2 ≤ s.size) (hm : s.size ≤ 100) (ha : ∀ b ∈ s.data.toList, b.toNat < 128) :
    Calls Try.prog 20 #[.string s, .int .i32 r] w fun e w' => e = .returned (.bool (decide (0 ≤ Lib.indexByte s.data.toList r.toNat.toUInt8))) ∧ ∃ n, w' = w.drewN n := by
  by_cases h : r < 128
  · refine (Try.strings_ContainsRune_ascii s r w h0 h).mono ?_
    rintro e w' ⟨rfl, rfl⟩
    exact ⟨rfl, 0, rfl⟩
  · have h128 : 128 ≤ r := by omega
    rw [lat_none s r h128 h1 ha]
    go_enter Try.func20, Try.ntmps20
    go_wp2_with (go_at_call 22; refine (ir_hi _ _ _ h128 h1 hs hm ha).mono ?_; rintro e w' ⟨rfl, n, rfl⟩)
    go_ret
    exact ⟨rfl, n, rfl⟩

theorem sp_dec : ∀ n : Fin 256, decide (0 ≤ Lib.indexByte [32, 9, 13, 10] (n.val : Int).toNat.toUInt8) = isSp (n.val : Int) := by decide +kernel

theorem cr_sp (c : Int) (w : World) (h0 : 0 ≤ c) (h1 : c ≤ 255) :
    Calls Try.prog 20 #[.string ⟨#[32, 9, 13, 10]⟩, .int .i32 c] w fun e w' => e = .returned (.bool (isSp c)) ∧ ∃ n, w' = w.drewN n := by
  have hsp := sp_dec ⟨c.toNat, by omega⟩
  simp only at hsp
  rw [show ((c.toNat : Nat) : Int) = c from by omega] at hsp
  rw [← hsp]
  exact cr_any ⟨#[32, 9, 13, 10]⟩ c w h0 h1 (by decide) (by decide) (by decide)

end Go.Proofs.Qxb6601854a
