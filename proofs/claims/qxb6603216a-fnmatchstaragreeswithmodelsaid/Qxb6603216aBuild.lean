import Derived.Test.Qxb6603216aShaped
import Derived.Deep.OwnRows
import Derived.Lib.LazyBuf
namespace Go.Proofs.Qxb6603216a
open Go.RowKit
def z7 : Array Value := #[.int .i64 0, .int .u8 0, .int .u64 0, .int .u64 0, .int .u64 0, .int .u64 0, .bool false]
theorem info48 : (Try.prog.info? 48).map (fun i => (i.zero, i.size, i.bytes)) = some (some (.agg z7), 7, 56) := by kernel_rfl
theorem info35 : (Try.prog.info? 35).map (fun i => (i.zero, i.size, i.bytes)) = some (some (.agg z7), 7, 56) := by kernel_rfl
theorem info4 : (Try.prog.info? 4).map (fun i => (i.zero, i.size, i.bytes)) = some (some (.bool false), 1, 1) := by kernel_rfl

theorem run_make_7 {P : Program} (t e : TypeId) (z : Value) (zs : Array Value) (bytes : Nat) (ht : P.underlying t = some (.slice e)) (hinfo : (P.info? e).map (fun i => (i.zero, i.size, i.bytes)) = some (some z, 7, bytes)) (hz1 : z.cells = zs)
    (kl kc : IntKind) (n : Nat) (hbytes : bytes * n ≤ 281474976710656) (h63 : n ≤ 9223372036854775807) (w : World) :
    (Instr.makeSlice t (.int kl (n : Int)) (.int kc (n : Int))).run P w = .ok (.slice (some ⟨w.heap.size, 0, none⟩) n n) (w.alloc (.cells (madeCells zs (n * 7)) e)) := by
  obtain ⟨i, hi, hzz⟩ := Option.map_eq_some_iff.1 hinfo
  simp only [Prod.mk.injEq] at hzz
  obtain ⟨hz, hs, hb⟩ := hzz
  have hb' : (i.bytes : Int) * (n : Int) ≤ 281474976710656 := by
    have h : ((i.bytes * n : Nat) : Int) ≤ 281474976710656 := by rw [hb]; omega
    rwa [Int.natCast_mul] at h
  have hr := run_make (P := P) w t e i z ht hi hz kl kc n n (by omega) (Int.le_refl _) hb' (by omega)
  simp only [Int.toNat_natCast, hs, hz1] at hr
  exact hr

theorem mkt_any (t : Tk) (w : World) :
    Calls Try.prog 28 #[.int .i64 t.kind, .int .u8 t.b, .agg #[.int .u64 t.s0, .int .u64 t.s1, .int .u64 t.s2, .int .u64 t.s3], .bool t.neg] w fun e w' => e = .returned (.agg #[.int .i64 t.kind, .int .u8 t.b, .int .u64 t.s0, .int .u64 t.s1, .int .u64 t.s2, .int .u64 t.s3, .bool t.neg]) ∧ Below w.heap.size w w' := by
  go_enter Try.func28, Try.ntmps28
  go_wp2_with fail
  refine bodyPost_ret (v := .agg #[.int .i64 t.kind, .int .u8 t.b, .int .u64 t.s0, .int .u64 t.s1, .int .u64 t.s2, .int .u64 t.s3, .bool t.neg]) (by simp [results, Try.results28, go_sem]) rfl ⟨rfl, ((Below.refl _ _).alloc (Nat.le_refl _) _).alloc (by simp) _⟩

theorem tbs_of_row {w : World} {b T : Nat} {f : Nat → Value} {ts : List Tk} (h : w.rowIs b T (ts.length * 7) f) (hf : ∀ i, i < ts.length → ∀ j, j < 7 → f (i * 7 + j) = (ts.getD i Tk.zero).cellAt j) : TBs w (some ⟨b, 0, none⟩) ts := by
  refine .inr ⟨b, 0, rfl, fun i hi j hj => ?_⟩
  rw [← hf i hi j hj, Nat.zero_add]
  exact h.cell (by omega)

theorem row7 {w : World} {b T : Nat} {f : Nat → Value} {n : Nat} (h : w.rowIs b T (n * 7) f) (k : Nat) (hk : k < n) :
    w.cell? ⟨b, k * 7, none⟩ = some (f (k * 7)) ∧ w.cell? ⟨b, k * 7 + 1, none⟩ = some (f (k * 7 + 1)) ∧ w.cell? ⟨b, k * 7 + 2, none⟩ = some (f (k * 7 + 2)) ∧ w.cell? ⟨b, k * 7 + 3, none⟩ = some (f (k * 7 + 3)) ∧ w.cell? ⟨b, k * 7 + 4, none⟩ = some (f (k * 7 + 4)) ∧ w.cell? ⟨b, k * 7 + 5, none⟩ = some (f (k * 7 + 5)) ∧ w.cell? ⟨b, k * 7 + 6, none⟩ = some (f (k * 7 + 6)) :=
  ⟨h.cell (by omega), h.cell (by omega), h.cell (by omega), h.cell (by omega), h.cell (by omega), h.cell (by omega), h.cell (by omega)⟩
theorem row7f {w : World} {b T : Nat} {f : Nat → Value} {n : Nat} (h : w.rowIs b T (n * 7) f) (k : Nat) :
    w.frozen? ⟨b, k * 7, none⟩ = false ∧ w.frozen? ⟨b, k * 7 + 1, none⟩ = false ∧ w.frozen? ⟨b, k * 7 + 2, none⟩ = false ∧ w.frozen? ⟨b, k * 7 + 3, none⟩ = false ∧ w.frozen? ⟨b, k * 7 + 4, none⟩ = false ∧ w.frozen? ⟨b, k * 7 + 5, none⟩ = false ∧ w.frozen? ⟨b, k * 7 + 6, none⟩ = false :=
  ⟨h.frozen _, h.frozen _, h.frozen _, h.frozen _, h.frozen _, h.frozen _, h.frozen _⟩

theorem rowIs_below {w w' : World} {b t n : Nat} {f : Nat → Value} (h : w.rowIs b t n f) {B : Nat} (hB : b < B) (hb : Below B w w') : w'.rowIs b t n f := h.of_block (hb.block b hB)

def put7 (w : World) (b o : Nat) (t : Tk) : World := (((((((w.setCell ⟨b, o, none⟩ (.int .i64 t.kind)).setCell ⟨b, o + 1, none⟩ (.int .u8 t.b)).setCell ⟨b, o + 2, none⟩ (.int .u64 t.s0)).setCell ⟨b, o + 3, none⟩ (.int .u64 t.s1)).setCell ⟨b, o + 4, none⟩ (.int .u64 t.s2)).setCell ⟨b, o + 5, none⟩ (.int .u64 t.s3)).setCell ⟨b, o + 6, none⟩ (.bool t.neg))

theorem put7_row {w : World} {b T : Nat} {n : Nat} {f : Nat → Value} (ts : List Tk) (t : Tk) (k : Nat) (ht : t = ts.getD k Tk.zero) (h : w.rowIs b T (n * 7) f) (hf : ∀ i, i < k → ∀ j, j < 7 → f (i * 7 + j) = (ts.getD i Tk.zero).cellAt j) :
    ∃ g, (put7 w b (k * 7) t).rowIs b T (n * 7) g ∧ ∀ i, i < k + 1 → ∀ j, j < 7 → g (i * 7 + j) = (ts.getD i Tk.zero).cellAt j := by
  refine ⟨_, ((((((h.set (k * 7) (.int .i64 t.kind)).set (k * 7 + 1) (.int .u8 t.b)).set (k * 7 + 2) (.int .u64 t.s0)).set (k * 7 + 3) (.int .u64 t.s1)).set (k * 7 + 4) (.int .u64 t.s2)).set (k * 7 + 5) (.int .u64 t.s3)).set (k * 7 + 6) (.bool t.neg), ?_⟩
  intro i hi j hj
  by_cases hik : i = k
  · subst hik
    rw [← ht]
    rcases (show j = 0 ∨ j = 1 ∨ j = 2 ∨ j = 3 ∨ j = 4 ∨ j = 5 ∨ j = 6 from by omega) with rfl | rfl | rfl | rfl | rfl | rfl | rfl <;> simp [Tk.cellAt, Tk.arr]
  · have h0 := hf i (by omega) j hj
    rw [← h0]
    rw [if_neg (by omega), if_neg (by omega), if_neg (by omega), if_neg (by omega), if_neg (by omega), if_neg (by omega), if_neg (by omega)]

theorem put7_below {B : Nat} {a w : World} {b o : Nat} {t : Tk} (hb : B ≤ b) (h : Below B a w) : Below B a (put7 w b o t) :=
  ((((((h.setCell hb _).setCell hb _).setCell hb _).setCell hb _).setCell hb _).setCell hb _).setCell hb _

theorem row_made7 (w : World) (n T : Nat) : ∃ f, (w.alloc (.cells (madeCells z7 (n * 7)) T)).rowIs w.heap.size T (n * 7) f := by
  have := World.rowIs_alloc w (madeCells z7 (n * 7)) T (fun i => z7[i % 7]!) (by
    intro i hi
    rw [size_madeCells] at hi
    simp [madeCells, hi]
    rfl)
  rw [size_madeCells] at this
  exact ⟨_, this⟩

set_option maxRecDepth 100000 in
set_option maxHeartbeats 4000000 in
theorem build_any (ts : List Tk) (a : Option Addr) (cap : Nat) (w : World) (hlen : ts.length ≤ 1048576) (hb : TBs w a ts) :
    Calls Try.prog 12 #[.slice a ts.length cap] w fun e w' => e = .returned (.slice (some ⟨w.heap.size, 0, none⟩) ts.length ts.length) ∧ TBs w' (some ⟨w.heap.size, 0, none⟩) ts ∧ Below w.heap.size w w' := by
  have hmk := fun w => run_make_7 (P := Try.prog) 26 48 (.agg z7) z7 56 Try.underlying26 info48 rfl .i64 .i64 ts.length (by omega) (by omega) w
  go_enter Try.func12, Try.ntmps12
  go_wp2_with fail
  clear hmk
  go_loopw [4] (fun iv wr => ∃ (k : Nat) (f : Nat → Value), k ≤ ts.length ∧ iv = .int .i64 (k : Int) ∧ wr.rowIs w.heap.size 48 (ts.length * 7) f ∧ Hid (∀ i, i < k → ∀ j, j < 7 → f (i * 7 + j) = (ts.getD i Tk.zero).cellAt j) ∧ Below w.heap.size w wr) (fun iv _ => ts.length - (intOf iv).toNat)
  case atStart =>
    obtain ⟨f, hf⟩ := row_made7 w ts.length 48
    exact ⟨0, f, by omega, rfl, hf, fun i hi => by omega, (Below.refl _ _).alloc (Nat.le_refl _) _⟩
  case round =>
    obtain ⟨i, f, hi, rfl, hrow, HF, hbel⟩ := hrel
    by_cases hlt : i < ts.length
    · have hne : ts ≠ [] := by rintro rfl; simp at hlt
      obtain ⟨b, off, ha, _⟩ := hb.resolve_left hne
      have hbw := hb.below (Nat.le_refl _) hbel
      subst ha
      have hcw := tbs_cells hbw hne
      have hil : (i : Int) < (ts.length : Int) := by omega
      obtain ⟨t, ht⟩ : ∃ t, t = ts.getD i Tk.zero := ⟨_, rfl⟩
      have h7 := seven_at hcw i hlt ht
      obtain ⟨k0, k1, k2, k3, k4, k5, k6⟩ := h7
      have HT : Hid (t = ts.getD i Tk.zero) := ht
      have HR : Hid (wr.rowIs w.heap.size 48 (ts.length * 7) f) := hrow
      have HBL : Hid (Below w.heap.size w wr) := hbel
      have hszl : w.heap.size < wr.heap.size := hrow.lt
      have hblt : b < w.heap.size := cell_lt (tbs_cells hb hne i hlt 0 (by omega))
      have hbne : ¬ b = w.heap.size := by omega
      have hbne2 : ¬ w.heap.size = b := by omega
      have HB : Hid (TBs wr (some ⟨b, off, none⟩) ts) := hbw
      have HN : Hid (ts ≠ []) := hne
      clear ht hcw hbw hb hne hrow hbel
      go_wp2_with fail
      go_region_held3 (fun w' => w'.cell? ⟨b, off + i * 7, none⟩ = some (.int .i64 t.kind) ∧ w'.cell? ⟨b, off + i * 7 + 1, none⟩ = some (.int .u8 t.b) ∧ w'.cell? ⟨b, off + i * 7 + 2, none⟩ = some (.int .u64 t.s0) ∧ w'.cell? ⟨b, off + i * 7 + 3, none⟩ = some (.int .u64 t.s1) ∧
    w'.cell? ⟨b, off + i * 7 + 4, none⟩ = some (.int .u64 t.s2) ∧ w'.cell? ⟨b, off + i * 7 + 5, none⟩ = some (.int .u64 t.s3) ∧ w'.cell? ⟨b, off + i * 7 + 6, none⟩ = some (.bool t.neg)) (go_keep)
        ((go_at_call 28; refine (mkt_any t _).mono ?_; rintro e w5 ⟨rfl, hb5⟩
          have hbd : Below wr.heap.size wr w5 := ((Below.refl _ _).drew).trans hb5
          have hrow5 : w5.rowIs w.heap.size 48 (ts.length * 7) f := rowIs_below HR.out hszl hbd
          obtain ⟨q0, q1, q2, q3, q4, q5, q6⟩ := seven_at (tbs_cells (HB.out.below (Nat.le_refl _) hbd) HN.out) i hlt HT.out
          obtain ⟨d0, d1, d2, d3, d4, d5, d6⟩ := row7 hrow5 i hlt
          obtain ⟨z0, z1, z2, z3, z4, z5, z6⟩ := row7f hrow5 i))
      go_wp2_with fail
      go_roundw
      case rel =>
        obtain ⟨g, hg1, hg2⟩ := put7_row ts t i HT.out hrow5 HF.out
        exact ⟨i + 1, g, by omega, by go_num, hg1, hg2, put7_below (b := w.heap.size) (Nat.le_refl _) (HBL.out.trans (hbd.mono (by omega)))⟩
      case measure => simp [intOf]; omega
    · obtain rfl : i = ts.length := by omega
      have HB : Hid (TBs wr (some ⟨w.heap.size, 0, none⟩) ts) := tbs_of_row hrow HF.out
      clear hrow HF hb
      go_wp2_with fail
      go_ret
      exact ⟨rfl, HB.out, hbel⟩
end Go.Proofs.Qxb6603216a
