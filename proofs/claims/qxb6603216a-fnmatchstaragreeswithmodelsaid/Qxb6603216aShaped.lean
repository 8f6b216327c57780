import Derived.Test.Qxb6603216aMatch
namespace Go.Proofs.Qxb6603216a
open Go.RowKit

def okP (p : Bool) (ts : List Tk) (i : Nat) : Prop :=
  (0 ≤ (ts.getD i Tk.zero).kind ∧ (ts.getD i Tk.zero).kind ≤ 4) ∧ ((ts.getD i Tk.zero).kind = 4 → (if i = 0 then p else isSlash (ts.getD (i - 1) Tk.zero)) = true ∧ (i + 1 < ts.length → isSlash (ts.getD (i + 1) Tk.zero) = true))

theorem sh_of (ts : List Tk) : ∀ p, (∀ i, i < ts.length → okP p ts i) → Sh p ts := by
  induction ts with
  | nil => intro p _; trivial
  | cons t r ih =>
    intro p h
    have h0 := h 0 (by simp)
    refine ⟨h0.1, fun h4 => ?_, ih _ fun i hi => ?_⟩
    · obtain ⟨h1, h2⟩ := h0.2 h4
      refine ⟨by simpa using h1, ?_⟩
      cases r with
      | nil => exact .inl rfl
      | cons t2 r2 => right; exact h2 (by simp)
    · have := h (i + 1) (by simp; omega)
      unfold okP at this ⊢
      refine ⟨this.1, fun h4 => ?_⟩
      obtain ⟨h1, h2⟩ := this.2 h4
      refine ⟨?_, fun h3 => h2 (by simp; omega)⟩
      rw [if_neg (by omega)] at h1
      cases i with
      | zero => simpa using h1
      | succ i => rw [if_neg (by omega)]; simpa using h1

theorem seven_at {w : World} {b off : Nat} {ts : List Tk} (hc : ∀ i, i < ts.length → ∀ j, j < 7 → w.cell? ⟨b, off + i * 7 + j, none⟩ = some ((ts.getD i Tk.zero).cellAt j)) (i : Nat) (hi : i < ts.length) {t : Tk} (ht : t = ts.getD i Tk.zero) :
    w.cell? ⟨b, off + i * 7, none⟩ = some (.int .i64 t.kind) ∧ w.cell? ⟨b, off + i * 7 + 1, none⟩ = some (.int .u8 t.b) ∧ w.cell? ⟨b, off + i * 7 + 2, none⟩ = some (.int .u64 t.s0) ∧ w.cell? ⟨b, off + i * 7 + 3, none⟩ = some (.int .u64 t.s1) ∧
    w.cell? ⟨b, off + i * 7 + 4, none⟩ = some (.int .u64 t.s2) ∧ w.cell? ⟨b, off + i * 7 + 5, none⟩ = some (.int .u64 t.s3) ∧ w.cell? ⟨b, off + i * 7 + 6, none⟩ = some (.bool t.neg) := by
  subst ht; exact seven (hc i hi)

theorem tbs_cells {w : World} {b off : Nat} {ts : List Tk} (h : TBs w (some ⟨b, off, none⟩) ts) (hne : ts ≠ []) : ∀ i, i < ts.length → ∀ j, j < 7 → w.cell? ⟨b, off + i * 7 + j, none⟩ = some ((ts.getD i Tk.zero).cellAt j) := by
  obtain ⟨b', off', h1, h2⟩ := h.resolve_left hne
  cases h1
  exact h2

set_option maxRecDepth 100000 in
set_option maxHeartbeats 4000000 in
theorem shaped_any (ts : List Tk) (a : Option Addr) (cap : Nat) (w : World) (hlen : ts.length ≤ 1048576) (hb : TBs w a ts) :
    Calls Try.prog 10 #[.slice a ts.length cap] w fun e w' => ∃ v : Bool, e = .returned (.bool v) ∧ (v = true → Sh true ts) ∧ Below w.heap.size w w' := by
  go_enter Try.func10, Try.ntmps10
  go_wp2_with fail
  go_loopw [4] (fun iv wr => ∃ i : Nat, i ≤ ts.length ∧ iv = .int .i64 (i : Int) ∧ Hid (∀ j, j < i → okP true ts j) ∧ Below w.heap.size w wr) (fun iv _ => ts.length - (intOf iv).toNat)
  case atStart => exact ⟨0, by omega, rfl, fun j hj => by omega, Below.refl _ _⟩
  case round =>
    obtain ⟨i, hi, rfl, HP, hbel⟩ := hrel
    by_cases hlt : i < ts.length
    · have hne : ts ≠ [] := by rintro rfl; simp at hlt
      obtain ⟨b, off, ha, _⟩ := hb.resolve_left hne
      have hbw := hb.below (Nat.le_refl _) hbel
      subst ha
      have hcw := tbs_cells hbw hne
      have hil : (i : Int) < (ts.length : Int) := by omega
      obtain ⟨t, ht⟩ : ∃ t, t = ts.getD i Tk.zero := ⟨_, rfl⟩
      obtain ⟨k0, _, _, _, _, _, _⟩ := seven_at hcw i hlt ht
      have HT : Hid (t = ts.getD i Tk.zero) := ht
      have HB : Hid (TBs wr (some ⟨b, off, none⟩) ts) := hbw
      have HN : Hid (ts ≠ []) := hne
      have hbsz := hbel.size
      clear ht hcw hbw hb hne
      rcases (show t.kind < 0 ∨ 4 < t.kind ∨ (0 ≤ t.kind ∧ t.kind ≤ 4 ∧ ¬ t.kind = 4) ∨ t.kind = 4 from by omega) with hk | hk | ⟨hk1, hk2, hk3⟩ | hk
      · go_wp2_with fail
        go_ret
        exact ⟨false, rfl, (fun h => by cases h), hbel⟩
      · go_wp2_with fail
        go_ret
        exact ⟨false, rfl, (fun h => by cases h), hbel⟩
      · have hk4 : (t.kind == 4) = false := by simpa using hk3
        have HOK : Hid (okP true ts i) := by
          show okP true ts i
          unfold okP
          rw [← HT.out]
          exact ⟨⟨hk1, hk2⟩, fun h => absurd h hk3⟩
        clear hk3
        go_wp2_with fail
        go_roundw
        case rel =>
          refine ⟨i + 1, by omega, by go_num, fun j hj => ?_, hbel⟩
          by_cases h : j = i
          · subst h; exact HOK.out
          · exact HP.out j (by omega)
        case measure => simp [intOf]; omega
      · have HK : Hid (t.kind = 4) := hk
        rw [hk] at k0
        clear hk
        by_cases hi0 : i = 0
        · have HPV : Hid ((if i = 0 then true else isSlash (ts.getD (i - 1) Tk.zero)) = true) := by show _ = _; rw [if_pos hi0]
          have hi0' : ¬ 0 < (i : Int) := by omega
          have belx := hbel
          have HB5 := HB
          clear hi0
          by_cases hnx : i + 1 < ts.length
          · have hnz : (i : Int) < (ts.length : Int) - 1 := by omega
            have hnz2 : (i : Int) + 1 < (ts.length : Int) := by omega
            obtain ⟨tn, htn⟩ : ∃ tn, tn = ts.getD (i + 1) Tk.zero := ⟨_, rfl⟩
            obtain ⟨n0, n1, n2, n3, n4, n5, n6⟩ := seven_at (tbs_cells HB5.out HN.out) (i + 1) hnx htn
            have HTN : Hid (tn = ts.getD (i + 1) Tk.zero) := htn
            clear htn
            cases hsn : isSlash tn with
            | false =>
              go_wp2_with fail
              refine (isl_any tn _).mono ?_
              rintro e w6 ⟨rfl, hb6⟩
              go_wp2_with fail
              go_ret
              exact ⟨false, rfl, (fun h => by cases h), belx.trans (hb6.mono belx.size)⟩
            | true =>
              have HOK : Hid (okP true ts i) := by
                show okP true ts i
                unfold okP
                rw [← HT.out, HK.out, ← HTN.out]
                exact ⟨⟨by omega, by omega⟩, fun _ => ⟨HPV.out, fun _ => hsn⟩⟩
              go_wp2_with fail
              refine (isl_any tn _).mono ?_
              rintro e w6 ⟨rfl, hb6⟩
              go_wp2_with fail
              go_roundw
              case rel =>
                refine ⟨i + 1, by omega, by go_num, fun j hj => ?_, belx.trans (hb6.mono belx.size)⟩
                by_cases h : j = i
                · subst h; exact HOK.out
                · exact HP.out j (by omega)
              case measure => simp [intOf]; omega
          · have hnz : ¬ (i : Int) < (ts.length : Int) - 1 := by omega
            have HOK : Hid (okP true ts i) := by
              show okP true ts i
              unfold okP
              rw [← HT.out, HK.out]
              exact ⟨⟨by omega, by omega⟩, fun _ => ⟨HPV.out, fun h => absurd h hnx⟩⟩
            go_wp2_with fail
            go_roundw
            case rel =>
              refine ⟨i + 1, by omega, by go_num, fun j hj => ?_, belx⟩
              by_cases h : j = i
              · subst h; exact HOK.out
              · exact HP.out j (by omega)
            case measure => simp [intOf]; omega
        · have hi0' : 0 < (i : Int) := by omega
          obtain ⟨tp, htp⟩ : ∃ tp, tp = ts.getD (i - 1) Tk.zero := ⟨_, rfl⟩
          obtain ⟨p0, p1, p2, p3, p4, p5, p6⟩ := seven_at (tbs_cells HB.out HN.out) (i - 1) (by omega) htp
          have HTP : Hid (tp = ts.getD (i - 1) Tk.zero) := htp
          have HI0 : Hid (i ≠ 0) := hi0
          have hi1 : (i : Int) - 1 < (ts.length : Int) := by omega
          clear htp hi0
          cases hsp : isSlash tp with
          | false =>
            go_wp2_with fail
            refine (isl_any tp _).mono ?_
            rintro e w5 ⟨rfl, hb5⟩
            go_wp2_with fail
            go_ret
            exact ⟨false, rfl, (fun h => by cases h), hbel.trans (hb5.mono hbel.size)⟩
          | true =>
            have HPV : Hid ((if i = 0 then true else isSlash (ts.getD (i - 1) Tk.zero)) = true) := by show _ = _; rw [if_neg HI0.out, ← HTP.out]; exact hsp
            go_wp2_with fail
            refine (isl_any tp _).mono ?_
            rintro e w5 ⟨rfl, hb5⟩
            have belx : Below w.heap.size w w5 := hbel.trans (hb5.mono hbel.size)
            have HB5 : Hid (TBs w5 (some ⟨b, off, none⟩) ts) := HB.out.below (Nat.le_refl _) hb5
            clear p0 p1 p2 p3 p4 p5 p6 k0
            by_cases hnx : i + 1 < ts.length
            · have hnz : (i : Int) < (ts.length : Int) - 1 := by omega
              have hnz2 : (i : Int) + 1 < (ts.length : Int) := by omega
              obtain ⟨tn, htn⟩ : ∃ tn, tn = ts.getD (i + 1) Tk.zero := ⟨_, rfl⟩
              obtain ⟨n0, n1, n2, n3, n4, n5, n6⟩ := seven_at (tbs_cells HB5.out HN.out) (i + 1) hnx htn
              have HTN : Hid (tn = ts.getD (i + 1) Tk.zero) := htn
              clear htn
              cases hsn : isSlash tn with
              | false =>
                go_wp2_with fail
                refine (isl_any tn _).mono ?_
                rintro e w6 ⟨rfl, hb6⟩
                go_wp2_with fail
                go_ret
                exact ⟨false, rfl, (fun h => by cases h), belx.trans (hb6.mono belx.size)⟩
              | true =>
                have HOK : Hid (okP true ts i) := by
                  show okP true ts i
                  unfold okP
                  rw [← HT.out, HK.out, ← HTN.out]
                  exact ⟨⟨by omega, by omega⟩, fun _ => ⟨HPV.out, fun _ => hsn⟩⟩
                go_wp2_with fail
                refine (isl_any tn _).mono ?_
                rintro e w6 ⟨rfl, hb6⟩
                go_wp2_with fail
                go_roundw
                case rel =>
                  refine ⟨i + 1, by omega, by go_num, fun j hj => ?_, belx.trans (hb6.mono belx.size)⟩
                  by_cases h : j = i
                  · subst h; exact HOK.out
                  · exact HP.out j (by omega)
                case measure => simp [intOf]; omega
            · have hnz : ¬ (i : Int) < (ts.length : Int) - 1 := by omega
              have HOK : Hid (okP true ts i) := by
                show okP true ts i
                unfold okP
                rw [← HT.out, HK.out]
                exact ⟨⟨by omega, by omega⟩, fun _ => ⟨HPV.out, fun h => absurd h hnx⟩⟩
              go_wp2_with fail
              go_roundw
              case rel =>
                refine ⟨i + 1, by omega, by go_num, fun j hj => ?_, belx⟩
                by_cases h : j = i
                · subst h; exact HOK.out
                · exact HP.out j (by omega)
              case measure => simp [intOf]; omega
    · have hil : (ts.length : Int) ≤ (i : Int) := by omega
      have HS : Hid (Sh true ts) := sh_of ts true (fun j hj => HP.out j (by omega))
      go_wp2_with fail
      go_ret
      exact ⟨true, rfl, fun _ => HS.out, hbel⟩
end Go.Proofs.Qxb6603216a
