import Derived.Test.Qxb6601854aClone
namespace Go.Proofs.Qxb6601854a
open Go.RowKit

theorem put_nil (B n p : Nat) (a : Option Addr) (cap : Nat) (w : World) (hp : p ≤ 1073741824) :
    Calls Try.prog 11 #[.slice (some ⟨B, 0, none⟩) n n, .int .i64 (p : Int), .slice a 0 cap] w fun e w' => e = .returned (.int .i64 (p : Int)) ∧ w' = w := by
  go_enter Try.func11, Try.ntmps11
  go_wp2_with fail
  refine wp_loop_rounds 1 ?_
  rw [rounds_succ]
  go_wp2_with fail
  go_ret
  exact ⟨rfl, rfl⟩

set_option maxHeartbeats 400000 in
theorem put_some (l : List Int) (B n p b off cap : Nat) (f : Nat → Value) (w : World) (hn : n ≤ 1073741824) (hp : p + l.length ≤ n) (hb : b < B) (hrow0 : w.rowIs B 5 n f) (hf : ∀ i, ∃ z, f i = .int .u8 z)
    (hc : ∀ i, i < l.length → w.cell? ⟨b, off + i, none⟩ = some (.int .u8 (l.getD i 0))) :
    Calls Try.prog 11 #[.slice (some ⟨B, 0, none⟩) n n, .int .i64 (p : Int), .slice (some ⟨b, off, none⟩) l.length cap] w fun e w' => e = .returned (.int .i64 ((p + l.length : Nat) : Int)) ∧ Below B w w' ∧ w'.rowIs B 5 n (fun i => if p ≤ i ∧ i < p + l.length then .int .u8 (l.getD (i - p) 0) else f i) := by
  go_enter Try.func11, Try.ntmps11
  go_wp2_with fail
  go_loopw [7] (fun v wr => ∃ k : Nat, k ≤ l.length ∧ v = .int .i64 k ∧ wr.rowIs B 5 n (fun i => if p ≤ i ∧ i < p + k then .int .u8 (l.getD (i - p) 0) else f i) ∧ Below B w wr) (fun v _ => l.length - (intOf v).toNat)
  case atStart => exact ⟨0, by omega, rfl, hrow0.congr (by intro i hi; rw [if_neg (by omega)]), Below.refl _ _⟩
  case round =>
    obtain ⟨k, hk, rfl, hrow, hbel⟩ := hrel
    by_cases hlt : k < l.length
    · have hcell := hc k hlt
      rw [← hbel.cell (p := ⟨b, off + k, none⟩) (by simp; omega)] at hcell
      obtain ⟨c, hcc⟩ : ∃ c, c = l.getD k 0 := ⟨_, rfl⟩
      rw [← hcc] at hcell
      have HC : Hid (c = l.getD k 0) := hcc
      have HB : Hid (∀ i, i < l.length → w.cell? ⟨b, off + i, none⟩ = some (.int .u8 (l.getD i 0))) := hc
      clear hcc hc
      have hdst := hrow.cell (i := p + k) (by omega)
      have hfr := hrow.frozen (p + k)
      rw [if_neg (by omega)] at hdst
      obtain ⟨z, hz⟩ := hf (p + k)
      rw [hz] at hdst
      have HF : Hid (∀ i, ∃ z, f i = .int .u8 z) := hf
      have HR : Hid (w.rowIs B 5 n f) := hrow0
      clear hz hf hrow0
      go_wp2_with fail
      go_roundw
      case rel =>
        refine ⟨k + 1, by omega, by go_num, (hrow.set (p + k) _).congr ?_, hbel.setCell (Nat.le_refl _) _⟩
        intro i hi
        by_cases h : i = p + k
        · subst h
          rw [if_pos rfl, if_pos (by omega), HC.out, show p + k - p = k from by omega]
        · simp only [h, if_false]
          by_cases h2 : p ≤ i ∧ i < p + k
          · rw [if_pos h2, if_pos (by omega)]
          · rw [if_neg h2, if_neg (by omega)]
      case measure => simp [intOf]; omega
    · obtain rfl : k = l.length := by omega
      go_wp2_with fail
      go_ret
      exact ⟨by go_num, hbel, hrow⟩

/-- The bytes are laid into the row at p. -/
theorem put_any (l : List Int) (a : Option Addr) (B n p cap : Nat) (f : Nat → Value) (w w0 : World) (hn : n ≤ 1073741824) (hp : p + l.length ≤ n) (hb : Bs w0 a l) (h0 : w0.heap.size ≤ B) (hbel : Below B w0 w) (hrow0 : w.rowIs B 5 n f) (hf : ∀ i, ∃ z, f i = .int .u8 z) :
    Calls Try.prog 11 #[.slice (some ⟨B, 0, none⟩) n n, .int .i64 (p : Int), .slice a l.length cap] w fun e w' => e = .returned (.int .i64 ((p + l.length : Nat) : Int)) ∧ Below B w w' ∧ w'.rowIs B 5 n (fun i => if p ≤ i ∧ i < p + l.length then .int .u8 (l.getD (i - p) 0) else f i) := by
  rcases hb with rfl | ⟨b, off, rfl, hc⟩
  · refine (put_nil B n p a cap w (by omega)).mono ?_
    rintro e w' ⟨rfl, rfl⟩
    exact ⟨rfl, Below.refl _ _, hrow0.congr (by intro i hi; rw [if_neg (by simp)])⟩
  · by_cases h : l = []
    · subst h
      refine (put_nil B n p _ cap w (by omega)).mono ?_
      rintro e w' ⟨rfl, rfl⟩
      exact ⟨rfl, Below.refl _ _, hrow0.congr (by intro i hi; rw [if_neg (by simp)])⟩
    · have hpos : 0 < l.length := List.length_pos_iff.2 h
      have hlt := cell_lt (hc 0 hpos)
      simp at hlt
      refine put_some l B n p b off cap f w hn hp (by omega) hrow0 hf fun i hi => ?_
      rw [hbel.cell (p := ⟨b, off + i, none⟩) (by simp; omega)]
      exact hc i hi
end Go.Proofs.Qxb6601854a
namespace Go.Proofs.Qxb6601854a
open Go.RowKit
/-- The same, the place said as a whole number. -/
theorem put_z (l : List Int) (a : Option Addr) (B n p cap : Nat) (pz : Int) (hpz : pz = (p : Int)) (f : Nat → Value) (w w0 : World) (hn : n ≤ 1073741824) (hp : p + l.length ≤ n) (hb : Bs w0 a l) (h0 : w0.heap.size ≤ B) (hbel : Below B w0 w) (hrow0 : w.rowIs B 5 n f) (hf : ∀ i, ∃ z, f i = .int .u8 z) :
    Calls Try.prog 11 #[.slice (some ⟨B, 0, none⟩) n n, .int .i64 pz, .slice a l.length cap] w fun e w' => e = .returned (.int .i64 (pz + l.length)) ∧ Below B w w' ∧ w'.rowIs B 5 n (fun i => if p ≤ i ∧ i < p + l.length then .int .u8 (l.getD (i - p) 0) else f i) := by
  subst hpz
  have := put_any l a B n p cap f w w0 hn hp hb h0 hbel hrow0 hf
  rwa [show ((p + l.length : Nat) : Int) = (p : Int) + l.length from by omega] at this
end Go.Proofs.Qxb6601854a
