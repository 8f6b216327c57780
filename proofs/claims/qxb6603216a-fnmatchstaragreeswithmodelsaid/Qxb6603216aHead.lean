import Derived.Test.Qxb6603216aBuild
namespace Go.Proofs.Qxb6603216a
open Go.RowKit

def hd (crosses : Bool) : Tk := ⟨if crosses then 4 else 3, 0, 0, 0, 0, 0, false⟩

theorem start7 (zs : Array Value) (n : Nat) (hn : 0 < n) (hs : zs.size = n * 7) (t : Tk) (W : World) :
    ∃ f, (W.alloc (.cells (((((((zs.setIfInBounds 0 (.int .i64 t.kind)).setIfInBounds 1 (.int .u8 t.b)).setIfInBounds 2 (.int .u64 t.s0)).setIfInBounds 3 (.int .u64 t.s1)).setIfInBounds 4 (.int .u64 t.s2)).setIfInBounds 5 (.int .u64 t.s3)).setIfInBounds 6 (.bool t.neg)) 35)).rowIs W.heap.size 35 (n * 7) f ∧ ∀ j, j < 7 → f j = t.cellAt j := by
  obtain ⟨c, hc⟩ : ∃ c, c = (((((((zs.setIfInBounds 0 (.int .i64 t.kind)).setIfInBounds 1 (.int .u8 t.b)).setIfInBounds 2 (.int .u64 t.s0)).setIfInBounds 3 (.int .u64 t.s1)).setIfInBounds 4 (.int .u64 t.s2)).setIfInBounds 5 (.int .u64 t.s3)).setIfInBounds 6 (.bool t.neg)) := ⟨_, rfl⟩
  have hcs : c.size = n * 7 := by rw [hc]; simp [hs]
  rw [← hc]
  have := World.rowIs_alloc W c 35 (fun i => c[i]?.getD undef) (by intro i hi; simp [hi])
  rw [hcs] at this
  refine ⟨_, this, fun j hj => ?_⟩
  rw [hc]
  have h7 : 7 ≤ zs.size := by omega
  rcases (show j = 0 ∨ j = 1 ∨ j = 2 ∨ j = 3 ∨ j = 4 ∨ j = 5 ∨ j = 6 from by omega) with rfl | rfl | rfl | rfl | rfl | rfl | rfl <;> simp [Tk.cellAt, Tk.arr, show 0 < zs.size from by omega, show 1 < zs.size from by omega, show 2 < zs.size from by omega, show 3 < zs.size from by omega, show 4 < zs.size from by omega, show 5 < zs.size from by omega, show 6 < zs.size from by omega]

set_option maxRecDepth 100000 in
set_option maxHeartbeats 4000000 in
theorem head_any (cr : Bool) (ts : List Tk) (a : Option Addr) (cap : Nat) (w : World) (hlen : ts.length ≤ 1048575) (hb : TBs w a ts) :
    Calls Try.prog 19 #[.bool cr, .slice a ts.length cap] w fun e w' => e = .returned (.slice (some ⟨w.heap.size + 1, 0, none⟩) (ts.length + 1) (ts.length + 1)) ∧ TBs w' (some ⟨w.heap.size + 1, 0, none⟩) (hd cr :: ts) ∧ Below w.heap.size w w' := by
  have hmk : ∀ w, (Instr.makeSlice 22 (.int .i64 ((ts.length : Int) + 1)) (.int .i64 ((ts.length : Int) + 1))).run Try.prog w = .ok (.slice (some ⟨w.heap.size, 0, none⟩) (ts.length + 1) (ts.length + 1)) (w.alloc (.cells (madeCells z7 ((ts.length + 1) * 7)) 35)) :=
    fun w => run_make_7 (P := Try.prog) 22 35 (.agg z7) z7 56 Try.underlying22 info35 rfl .i64 .i64 (ts.length + 1) (by omega) (by omega) w
  obtain ⟨zs, hzs⟩ : ∃ zs, zs = madeCells z7 ((ts.length + 1) * 7) := ⟨_, rfl⟩
  rw [← hzs] at hmk
  have hsz : zs.size = (ts.length + 1) * 7 := by rw [hzs, size_madeCells]
  have hgz : ∀ j, (h : j < 7) → zs[j]? = some (z7[j]!) := fun j hj => by
    rw [hzs]; simp [madeCells, show j < (ts.length + 1) * 7 from by omega]
    rw [show z7.size = 7 from rfl, Nat.mod_eq_of_lt hj]
  have y0 := hgz 0 (by omega)
  have y1 := hgz 1 (by omega)
  have y2 := hgz 2 (by omega)
  have y3 := hgz 3 (by omega)
  have y4 := hgz 4 (by omega)
  have y5 := hgz 5 (by omega)
  have y6 := hgz 6 (by omega)
  have HST : Hid (∀ (t : Tk) (W : World), ∃ f, (W.alloc (.cells (((((((zs.setIfInBounds 0 (.int .i64 t.kind)).setIfInBounds 1 (.int .u8 t.b)).setIfInBounds 2 (.int .u64 t.s0)).setIfInBounds 3 (.int .u64 t.s1)).setIfInBounds 4 (.int .u64 t.s2)).setIfInBounds 5 (.int .u64 t.s3)).setIfInBounds 6 (.bool t.neg)) 35)).rowIs W.heap.size 35 ((ts.length + 1) * 7) f ∧ ∀ j, j < 7 → f j = t.cellAt j) := fun t W => start7 zs (ts.length + 1) (by omega) hsz t W
  clear hzs hgz hsz
  simp [z7] at y0 y1 y2 y3 y4 y5 y6
  obtain ⟨hv, hhv⟩ : ∃ hv, hv = hd cr := ⟨_, rfl⟩
  have HHV : Hid (hv = hd cr) := hhv
  clear hhv
  cases cr
  all_goals
    go_enter Try.func19, Try.ntmps19
    go_wp2_with fail
    clear hmk y0 y1 y2 y3 y4 y5 y6
    go_loopw [7] (fun iv wr => ∃ (k : Nat) (f : Nat → Value), k ≤ ts.length ∧ iv = .int .i64 (k : Int) ∧ wr.rowIs (w.heap.size + 1) 35 ((ts.length + 1) * 7) f ∧ Hid (∀ i, i < k + 1 → ∀ j, j < 7 → f (i * 7 + j) = ((hv :: ts).getD i Tk.zero).cellAt j) ∧ Below w.heap.size w wr) (fun iv _ => ts.length - (intOf iv).toNat)
    case atStart =>
      obtain ⟨f, hf, hf2⟩ := HST.out hv (w.alloc (.cells #[.int .i64 hv.kind, .int .u8 0, .int .u64 0, .int .u64 0, .int .u64 0, .int .u64 0, .bool false] 35))
      rw [HHV.out] at hf
      rw [show ∀ o, (w.alloc o).heap.size = w.heap.size + 1 from fun o => by simp] at hf
      exact ⟨0, f, by omega, rfl, hf, fun i hi j hj => by
        obtain rfl : i = 0 := by omega
        simpa using hf2 j hj, ((Below.refl _ _).alloc (Nat.le_refl _) _).alloc (by simp) _⟩
    case round =>
      obtain ⟨i, f, hi, rfl, hrow, HF, hbel⟩ := hrel
      by_cases hlt : i < ts.length
      · have hne : ts ≠ [] := by rintro rfl; simp at hlt
        obtain ⟨b, off, ha, _⟩ := hb.resolve_left hne
        have hbw := hb.below (Nat.le_refl _) hbel
        subst ha
        have hcw := tbs_cells hbw hne
        have hil : (i : Int) < (ts.length : Int) := by omega
        have hil1 : (i : Int) + 1 < (ts.length : Int) + 1 := by omega
        obtain ⟨t, ht⟩ : ∃ t, t = ts.getD i Tk.zero := ⟨_, rfl⟩
        obtain ⟨k0, k1, k2, k3, k4, k5, k6⟩ := seven_at hcw i hlt ht
        obtain ⟨d0, d1, d2, d3, d4, d5, d6⟩ := row7 hrow (i + 1) (by omega)
        obtain ⟨z0, z1, z2, z3, z4, z5, z6⟩ := row7f hrow (i + 1)
        have HT : Hid (t = (hv :: ts).getD (i + 1) Tk.zero) := ht
        clear ht hcw hbw hb hne
        go_wp2_with fail
        go_roundw
        case rel =>
          obtain ⟨g, hg1, hg2⟩ := put7_row (hv :: ts) t (i + 1) HT.out hrow HF.out
          exact ⟨i + 1, g, by omega, by go_num, hg1, hg2, put7_below (b := w.heap.size + 1) (by omega) hbel⟩
        case measure => simp [intOf]; omega
      · obtain rfl : i = ts.length := by omega
        have HB : Hid (TBs wr (some ⟨w.heap.size + 1, 0, none⟩) (hv :: ts)) := tbs_of_row hrow HF.out
        clear hrow HF hb
        go_wp2_with fail
        go_ret
        exact ⟨rfl, HHV.out ▸ HB.out, hbel⟩
end Go.Proofs.Qxb6603216a
