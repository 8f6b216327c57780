import Derived.Test.Qxb6601854aPut
import Derived.Test.Qxb6601854aShift
import Derived.OpenShut
namespace Go.Proofs.Qxb6601854a
open Go.RowKit

def IsRow (k : IntKind) (w : World) (a : Option Addr) (len cap : Nat) (zs : List Int) : Prop :=
  (a = none ∧ len = 0 ∧ cap = 0 ∧ zs = []) ∨
  ∃ x, a = some x ∧ len ≤ cap ∧ cap ≤ maxLen ∧ zs.length = cap ∧ (∀ i, i < zs.length → w.cell? (x.add i) = some (.int k (zs.getD i 0))) ∧ ∀ n ∈ zs, (Lit.int k n).wf = true

/-- What a row of bytes that came in gives. -/
theorem row_bs {w : World} {a : Option Addr} {len cap : Nat} {zs : List Int} (h : IsRow .u8 w a len cap zs) :
    len ≤ maxLen ∧ ∃ l : List Int, l.length = len ∧ (∀ x ∈ l, 0 ≤ x ∧ x ≤ 255) ∧ Bs w a l ∧ (a = none → l = []) := by
  rcases h with ⟨rfl, rfl, rfl, rfl⟩ | ⟨x, rfl, hl, hm, hz, hc, hwf⟩
  · exact ⟨Nat.zero_le _, [], rfl, by simp, .inl rfl, fun _ => rfl⟩
  · refine ⟨by omega, zs.take len, by simp; omega, ?_, ?_, by simp⟩
    · intro y hy
      have := hwf y (List.mem_of_mem_take hy)
      have b := bounds_u8 this
      omega
    · by_cases h0 : len = 0
      · subst h0; exact .inl (by simp)
      · obtain ⟨b, off, spot⟩ := x
        have hs : spot = none := by simpa [Addr.add] using World.cell?_spot (hc 0 (by omega))
        subst hs
        refine .inr ⟨b, off, rfl, fun i hi => ?_⟩
        simp at hi
        have := hc i (by omega)
        rw [show (List.take len zs).getD i 0 = zs.getD i 0 from by simp [List.getD, show i < len from by omega]]
        rw [← this, WideShapes.add_plain]

theorem zzb_yes (a0 a1 a2 : Option Addr) (n0 c0 n1 c1 n2 c2 : Nat) (x : Int) (w : World) (h : n0 + n1 + n2 ≤ 1048576) :
    Calls Try.prog 17 #[.slice a0 n0 c0, .slice a1 n1 c1, .slice a2 n2 c2, .int .i64 x] w fun e w' => e = .returned (.bool true) ∧ w = w' := by
  go_enter Try.func17, Try.ntmps17
  go_wp2
  go_ret
  exact ⟨rfl, rfl⟩

theorem zzb_no (a0 a1 a2 : Option Addr) (n0 c0 n1 c1 n2 c2 : Nat) (x : Int) (w : World) (h0 : n0 ≤ maxLen) (h1 : n1 ≤ maxLen) (h2 : n2 ≤ maxLen) (h : ¬ n0 + n1 + n2 ≤ 1048576) :
    Calls Try.prog 17 #[.slice a0 n0 c0, .slice a1 n1 c1, .slice a2 n2 c2, .int .i64 x] w fun e w' => e = .returned (.bool false) ∧ w = w' := by
  unfold maxLen at h0 h1 h2
  go_enter Try.func17, Try.ntmps17
  go_wp2
  all_goals
    go_ret
    exact ⟨rfl, rfl⟩

theorem zzvs_z (l : List Int) (hl : ∀ x ∈ l, 0 ≤ x ∧ x ≤ 255) (a : Option Addr) (cap : Nat) (hlen : l.length ≤ 1073741824) (o : Nat) (h1 : o ≤ 2147483648) (w : World) (hb : Bs w a l) (n : Nat) (hn : n = l.length) (oz : Int) (hoz : oz = (o : Int)) (r : Int) (hr : r = (vstart l o : Int)) :
    Calls Try.prog 14 #[.slice a n cap, .int .i64 oz] w fun e w' => e = .returned (.int .i64 r) ∧ ∃ n, w' = w.drewN n := by
  subst hn hoz hr
  exact zzvs_any l hl a cap hlen o h1 w hb

theorem whole_row {w : World} {B : Nat} {f : Nat → Value} (l0 l1 l2 : List Int)
    (hrow : w.rowIs B 5 (l0.length + l1.length + l2.length) (fun i => if l0.length + l1.length ≤ i ∧ i < l0.length + l1.length + l2.length then .int .u8 (l2.getD (i - (l0.length + l1.length)) 0) else if l0.length ≤ i ∧ i < l0.length + l1.length then .int .u8 (l1.getD (i - l0.length) 0) else if 0 ≤ i ∧ i < 0 + l0.length then .int .u8 (l0.getD (i - 0) 0) else f i)) :
    Bs w (some ⟨B, 0, none⟩) (l0 ++ (l1 ++ l2)) := by
  refine Bs.of_row hrow (by simp; omega) fun i hi => ?_
  simp at hi
  by_cases h0 : i < l0.length
  · rw [if_neg (by omega), if_neg (by omega), if_pos (by omega), getD_app_left _ _ _ h0, Nat.sub_zero]
  · obtain ⟨j, rfl⟩ : ∃ j, i = l0.length + j := ⟨i - l0.length, by omega⟩
    rw [getD_app_right]
    by_cases h1 : j < l1.length
    · rw [if_neg (by omega), if_pos (by omega), getD_app_left _ _ _ h1, show l0.length + j - l0.length = j from by omega]
    · obtain ⟨k, rfl⟩ : ∃ k, j = l1.length + k := ⟨j - l1.length, by omega⟩
      rw [getD_app_right, if_pos (by omega), show l0.length + (l1.length + k) - (l0.length + l1.length) = k from by omega]

theorem shift_out (a0 a1 a2 : Option Addr) (n0 c0 n1 c1 n2 c2 : Nat) (x : Int) (w : World) (h0 : n0 ≤ maxLen) (h1 : n1 ≤ maxLen) (h2 : n2 ≤ maxLen) (h : ¬ (n0 + n1 + n2 ≤ 1048576 ∧ 0 ≤ x ∧ x ≤ 1073741824)) :
    Calls Try.prog 5 #[.slice a0 n0 c0, .slice a1 n1 c1, .slice a2 n2 c2, .int .i64 x] w fun e w' => e = .returned (.bool true) ∧ Below w.heap.size w w' := by
  by_cases ht : n0 + n1 + n2 ≤ 1048576
  · have hx : x < 0 ∨ 0 ≤ x ∧ 1073741824 < x := by omega
    clear h
    rcases hx with hx | ⟨hx, hx'⟩
    all_goals
      go_enter Try.func5, Try.ntmps5
      go_wp2_with (go_at_call 17; refine (zzb_yes _ _ _ _ _ _ _ _ _ _ _ ht).mono ?_; rintro e w' ⟨rfl, rfl⟩)
      go_ret
      exact ⟨rfl, Below.refl _ _⟩
  · go_enter Try.func5, Try.ntmps5
    go_wp2_with (go_at_call 17; refine (zzb_no _ _ _ _ _ _ _ _ _ _ _ h0 h1 h2 ht).mono ?_; rintro e w' ⟨rfl, rfl⟩)
    go_ret
    exact ⟨rfl, Below.refl _ _⟩

set_option maxHeartbeats 1000000 in
theorem shift_in (l0 l1 l2 : List Int) (a0 a1 a2 : Option Addr) (c0 c1 c2 : Nat) (o : Nat) (w : World) (ht : l0.length + l1.length + l2.length ≤ 1048576) (ho : o ≤ 1073741824)
    (d0 : ∀ x ∈ l0, 0 ≤ x ∧ x ≤ 255) (d1 : ∀ x ∈ l1, 0 ≤ x ∧ x ≤ 255) (d2 : ∀ x ∈ l2, 0 ≤ x ∧ x ≤ 255)
    (b0 : Bs w a0 l0) (b1 : Bs w a1 l1) (b2 : Bs w a2 l2) (e0 : a0 = none → l0 = []) (e1 : a1 = none → l1 = []) (e2 : a2 = none → l2 = []) :
    Calls Try.prog 5 #[.slice a0 l0.length c0, .slice a1 l1.length c1, .slice a2 l2.length c2, .int .i64 (o : Int)] w fun e w' => e = .returned (.bool true) ∧ Below w.heap.size w w' := by
  have D : Hid ((∀ x ∈ l0, 0 ≤ x ∧ x ≤ 255) ∧ (∀ x ∈ l1, 0 ≤ x ∧ x ≤ 255) ∧ (∀ x ∈ l2, 0 ≤ x ∧ x ≤ 255)) := ⟨d0, d1, d2⟩
  have E : Hid ((a0 = none → l0 = []) ∧ (a1 = none → l1 = []) ∧ (a2 = none → l2 = [])) := ⟨e0, e1, e2⟩
  clear d0 d1 d2 e0 e1 e2
  have hmk : ∀ w, (Instr.makeSlice 22 (.int .i64 ((l0.length : Int) + l1.length + l2.length)) (.int .i64 ((l0.length : Int) + l1.length + l2.length))).run Try.prog w = .ok (.slice (some ⟨w.heap.size, 0, none⟩) (l0.length + l1.length + l2.length) (l0.length + l1.length + l2.length)) (w.alloc (.cells (madeCells #[.int .u8 0] (l0.length + l1.length + l2.length)) 5)) := by
    intro w
    have := run_make_row' (P := Try.prog) 22 5 (.int .u8 0) 1 Try.underlying22 info5 rfl .i64 .i64 (l0.length + l1.length + l2.length) (by omega) (by omega) w
    rwa [show ((l0.length + l1.length + l2.length : Nat) : Int) = (l0.length : Int) + l1.length + l2.length from by omega] at this
  go_enter Try.func5, Try.ntmps5
  go_wp2_with (go_at_call 17; refine (zzb_yes _ _ _ _ _ _ _ _ _ _ _ ht).mono ?_; rintro e w' ⟨rfl, rfl⟩)
  refine (clone_any l0 _ _ (by omega) _ b0 E.out.1).mono ?_
  rintro e w1 ⟨a0', c0', rfl, b0', bel1⟩
  go_wp2_with fail
  have b1' := b1.below (Nat.le_refl _) bel1
  have b2' := b2.below (Nat.le_refl _) bel1
  refine (clone_any l1 _ _ (by omega) _ b1' E.out.2.1).mono ?_
  rintro e w2 ⟨a1', c1', rfl, b1'', bel2⟩
  go_wp2_with fail
  have b0'' := b0'.below (Nat.le_refl _) bel2
  have b2'' := b2'.below (Nat.le_refl _) bel2
  refine (clone_any l2 _ _ (by omega) _ b2'' E.out.2.2).mono ?_
  rintro e w3 ⟨a2', c2', rfl, b2c, bel3⟩
  have b0c := b0''.below (Nat.le_refl _) bel3
  have b1c := b1''.below (Nat.le_refl _) bel3
  have bel : Below w.heap.size w w3 := (bel1.trans (bel2.mono bel1.size)).trans (bel3.mono (Nat.le_trans bel1.size bel2.size))
  clear b0 b1 b2 b0' b1' b2' b0'' b1'' b2'' bel1 bel2 bel3
  go_wp2_with fail
  refine (zzvs_any l1 D.out.2.1 _ _ (by omega) o (by omega) _ b1c).mono ?_
  rintro e w4 ⟨rfl, n, rfl⟩
  have hvb := vstart_le l1 o
  rcases (show (l1.length ≤ vstart l1 o ∧ 0 < l2.length) ∨ vstart l1 o < l1.length ∨ (l1.length ≤ vstart l1 o ∧ l2.length ≤ 0) from by omega) with ⟨hl1, hl2⟩ | hl1 | ⟨hl1, hl2⟩
  · go_wp2_with fail
    go_ret
    exact ⟨rfl, below_drewN bel _⟩
  all_goals
    have HOK : Hid (¬ (l1.length ≤ vstart l1 o ∧ 0 < l2.length)) := by show ¬ (_ ∧ _); omega
    go_wp2_with fail
    have belA : ∀ o, Below w3.heap.size w3 ((w3.drewN n).alloc o) := fun o => (below_drewN (Below.refl _ _) n).alloc (by simp) o
    have r0 : ∀ N, ((w3.drewN n).alloc (.cells (madeCells #[.int .u8 0] N) 5)).rowIs w3.heap.size 5 N (fun _ => .int .u8 0) := by
      intro N
      have := World.rowIs_made (w3.drewN n) (.int .u8 0) N 5
      simpa using this
    refine (put_z l0 _ _ _ 0 _ 0 rfl _ _ w3 (by omega) (by omega) b0c (Nat.le_refl _) (belA _) (r0 _) (fun _ => ⟨_, rfl⟩)).mono ?_
    rintro e w5 ⟨rfl, bel5, row5⟩
    have belB := (belA _).trans bel5
    clear r0 bel5 hmk
    go_wp2_with fail
    refine (put_z l1 _ _ _ l0.length _ _ (by omega) _ _ w3 (by omega) (by omega) b1c (Nat.le_refl _) belB row5 ?_).mono ?_
    · intro i; split <;> exact ⟨_, rfl⟩
    rintro e w6 ⟨rfl, bel6, row6⟩
    have belC := belB.trans bel6
    clear bel6 row5 belB
    go_wp2_with fail
    refine (put_z l2 _ _ _ (l0.length + l1.length) _ _ (by omega) _ _ w3 (by omega) (by omega) b2c (Nat.le_refl _) belC row6 ?_).mono ?_
    · intro i; split <;> first | exact ⟨_, rfl⟩ | (split <;> exact ⟨_, rfl⟩)
    rintro e w7 ⟨rfl, bel7, row7⟩
    have belD := belC.trans bel7
    have bw := whole_row l0 l1 l2 row7
    have hwl : (l0 ++ (l1 ++ l2)).length = l0.length + l1.length + l2.length := by simp; omega
    have HWL : Hid ((l0 ++ (l1 ++ l2)).length = l0.length + l1.length + l2.length) := hwl
    clear bel7 row6 row7 belC hwl
    go_wp2_with fail
    refine (zzvs_z (l0 ++ (l1 ++ l2)) ?_ _ _ (by rw [HWL.out]; omega) (l0.length + o) (by omega) _ bw _ HWL.out.symm _ (by omega) ((l0.length : Int) + (vstart l1 o : Int)) ?_).mono ?_
    · intro x hx
      simp only [List.mem_append] at hx
      rcases hx with hx | hx | hx
      · exact D.out.1 x hx
      · exact D.out.2.1 x hx
      · exact D.out.2.2 x hx
    · rw [shift_law l0 l1 l2 o HOK.out]; omega
    rintro e w8 ⟨rfl, m, rfl⟩
    go_wp2_with fail
    go_ret
    exact ⟨by simp, below_drewN (bel.trans (belD.mono bel.size)) _⟩

end Go.Proofs.Qxb6601854a
