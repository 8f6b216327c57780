import Derived.Test.Qxb6603216aSmall
namespace Go.Proofs.Qxb6603216a
open Go.RowKit

def Mr (ts : List Tk) (s : ByteArray) (k j : Nat) : Bool := M (ts.drop k) (s.data.toList.drop j)
def Nr (ts : List Tk) (s : ByteArray) (k j : Nat) : Bool := (tabM (ts.drop k)).2 (s.data.toList.drop j)
def Dr (ts : List Tk) (s : ByteArray) (k j : Nat) : Bool := anyM (M (ts.drop k)) (s.data.toList.drop j)

theorem sdrop_end (s : ByteArray) : s.data.toList.drop s.size = [] := List.drop_eq_nil_of_le (by simp)

theorem Nr_succ {ts : List Tk} {s : ByteArray} {k : Nat} (hk : k < ts.length) (j : Nat) : Nr ts s k j = Mr ts s (k + 1) j := by
  unfold Nr Mr
  rw [tdrop_cons ts k hk, tabM2]

section
variable {ts : List Tk} {s : ByteArray} {k : Nat} {t : Tk} (hk : k < ts.length) (ht : t = ts.getD k Tk.zero)
include hk ht
theorem Mr_cons (j : Nat) : Mr ts s k j = rowM t (headSlash (ts.drop (k + 1))) (M (ts.drop (k + 1))) (tabM (ts.drop (k + 1))).2 (s.data.toList.drop j) := by
  unfold Mr
  rw [tdrop_cons ts k hk, M_cons, ← ht]
theorem Mr_star_end (h3 : t.kind = 3) : Mr ts s k s.size = Mr ts s (k + 1) s.size := by
  rw [Mr_cons hk ht, rowM, if_pos h3]
  unfold Mr
  rw [sdrop_end]
  rfl
theorem Mr_star (h3 : t.kind = 3) (j : Nat) (hj : j < s.size) : Mr ts s k j = (Mr ts s (k + 1) j || (decide (s[j] ≠ 47) && Mr ts s k (j + 1))) := by
  rw [Mr_cons hk ht j, Mr_cons hk ht (j + 1)]
  unfold rowM
  rw [if_pos h3, if_pos h3]
  unfold Mr
  rw [sget s j hj, starM]
theorem Mr_dbl (h4 : t.kind = 4) (j : Nat) : Mr ts s k j = (Dr ts s (k + 1) j || (headSlash (ts.drop (k + 1)) && Nr ts s (k + 1) j)) := by
  rw [Mr_cons hk ht j, rowM, if_neg (by omega), if_pos h4]
  rfl
theorem Mr_one_end (h3 : ¬ t.kind = 3) (h4 : ¬ t.kind = 4) : Mr ts s k s.size = false := by
  rw [Mr_cons hk ht, rowM, if_neg h3, if_neg h4, sdrop_end]
  rfl
theorem Mr_one (h3 : ¬ t.kind = 3) (h4 : ¬ t.kind = 4) (j : Nat) (hj : j < s.size) : Mr ts s k j = (Mr ts s (k + 1) (j + 1) && one t s[j]) := by
  rw [Mr_cons hk ht j, rowM, if_neg h3, if_neg h4, sget s j hj, oneM]
  rfl
end
theorem Dr_end (ts : List Tk) (s : ByteArray) (k : Nat) : Dr ts s k s.size = Mr ts s k s.size := by
  unfold Dr Mr
  rw [sdrop_end]
  rfl
theorem Dr_step (ts : List Tk) (s : ByteArray) (k j : Nat) (hj : j < s.size) : Dr ts s k j = (Mr ts s k j || Dr ts s k (j + 1)) := by
  unfold Dr Mr
  rw [sget s j hj, anyM]
theorem Mr_start (ts : List Tk) (s : ByteArray) (j : Nat) (hj : j ≤ s.size) : Mr ts s ts.length j = decide (j = s.size) := by
  unfold Mr
  rw [List.drop_length, M_nil]
  by_cases h : j = s.size
  · rw [List.drop_eq_nil_of_le (by simp; omega)]; simp [h]
  · have : 0 < (s.data.toList.drop j).length := by simp; omega
    cases hx : s.data.toList.drop j with
    | nil => rw [hx] at this; simp at this
    | cons a b => simp [h]
theorem Nr_start (ts : List Tk) (s : ByteArray) (j : Nat) : Nr ts s ts.length j = false := by
  unfold Nr
  rw [List.drop_length]
  rfl

/-- A row of the table. -/
def RowB (w : World) (b n : Nat) (f : Nat → Bool) : Prop := w.rowIs b 4 n (fun j => .bool (f j))
theorem RowB.cell {w : World} {b n : Nat} {f : Nat → Bool} (h : RowB w b n f) {j : Nat} (hj : j < n) : w.cell? ⟨b, j, none⟩ = some (.bool (f j)) := World.rowIs.cell h hj
theorem RowB.frozen {w : World} {b n : Nat} {f : Nat → Bool} (h : RowB w b n f) (j : Nat) : w.frozen? ⟨b, j, none⟩ = false := World.rowIs.frozen h j
theorem RowB.congr {w : World} {b n : Nat} {f g : Nat → Bool} (h : RowB w b n f) (e : ∀ j, j < n → f j = g j) : RowB w b n g := World.rowIs.congr h (fun j hj => by rw [e j hj])
theorem RowB.set {w : World} {b n : Nat} {f : Nat → Bool} (h : RowB w b n f) (i : Nat) (v : Bool) : RowB (w.setCell ⟨b, i, none⟩ (.bool v)) b n (fun j => if j = i then v else f j) :=
  World.rowIs.congr (World.rowIs.set h i (.bool v)) (fun j hj => by by_cases hji : j = i <;> simp [hji])
theorem RowB.other {w : World} {b n : Nat} {f : Nat → Bool} (h : RowB w b n f) {a : Addr} (ha : b ≠ a.block) (v : Value) : RowB (w.setCell a v) b n f := World.rowIs.setOther h ha v
theorem RowB.alloc {w : World} {b n : Nat} {f : Nat → Bool} (h : RowB w b n f) (o : Obj) : RowB (w.alloc o) b n f := World.rowIs.alloc h o
theorem RowB.below {w w' : World} {b n : Nat} {f : Nat → Bool} (h : RowB w b n f) {B : Nat} (hB : b < B) (hb : Below B w w') : RowB w' b n f := rowIs_below h hB hb
theorem RowB.lt {w : World} {b n : Nat} {f : Nat → Bool} (h : RowB w b n f) : b < w.heap.size := World.rowIs.lt h

/-- The three rows, before token k. -/
structure Three (w0 w : World) (ts : List Tk) (s : ByteArray) (k X Y Z : Nat) : Prop where
  x : RowB w X (s.size + 1) (Mr ts s k)
  y : RowB w Y (s.size + 1) (Nr ts s k)
  z : ∃ g, RowB w Z (s.size + 1) g
  xy : X ≠ Y
  xz : X ≠ Z
  yz : Y ≠ Z
  bx : w0.heap.size ≤ X
  by' : w0.heap.size ≤ Y
  bz : w0.heap.size ≤ Z
  bel : Below w0.heap.size w0 w

theorem three_start (w : World) (ts : List Tk) (s : ByteArray) (zs : Array Value) (hz : zs = madeCells #[.bool false] (s.size + 1)) :
    Three w (((w.alloc (.cells (zs.setIfInBounds s.size (.bool true)) 4)).alloc (.cells zs 4)).alloc (.cells zs 4)) ts s ts.length w.heap.size (w.heap.size + 1) (w.heap.size + 1 + 1) := by
  have hsz : zs.size = s.size + 1 := by rw [hz, size_madeCells]
  have hg : ∀ i, i < s.size + 1 → zs[i]? = some (.bool false) := fun i hi => by rw [hz]; simp [madeCells, hi, Nat.mod_one]
  have e1 : ∀ o, (w.alloc o).heap.size = w.heap.size + 1 := fun o => by simp
  have e2 : ∀ o o', ((w.alloc o).alloc o').heap.size = w.heap.size + 1 + 1 := fun o o' => by simp
  refine ⟨?_, ?_, ?_, by omega, by omega, by omega, by omega, by omega, by omega, (((Below.refl _ _).alloc (Nat.le_refl _) _).alloc (by rw [e1]; omega) _).alloc (by rw [e2]; omega) _⟩
  · have h := World.rowIs_alloc w (zs.setIfInBounds s.size (.bool true)) 4 (fun j => .bool (Mr ts s ts.length j)) (fun i hi => by
      simp [hsz] at hi
      rw [Mr_start ts s i (by omega)]
      by_cases h : i = s.size
      · subst h; simp [hsz]
      · rw [Array.getElem?_setIfInBounds_ne (by omega), hg i (by omega)]; simp [h])
    simp only [Array.size_setIfInBounds, hsz] at h
    exact (World.rowIs.alloc (World.rowIs.alloc h _) _)
  · have h := World.rowIs_alloc (w.alloc (.cells (zs.setIfInBounds s.size (.bool true)) 4)) zs 4 (fun j => .bool (Nr ts s ts.length j)) (fun i hi => by
      rw [hsz] at hi
      rw [Nr_start, hg i (by omega)])
    rw [hsz, e1] at h
    exact World.rowIs.alloc h _
  · refine ⟨fun _ => false, ?_⟩
    have h := World.rowIs_alloc ((w.alloc (.cells (zs.setIfInBounds s.size (.bool true)) 4)).alloc (.cells zs 4)) zs 4 (fun j => .bool false) (fun i hi => by
      rw [hsz] at hi
      rw [hg i (by omega)])
    rw [hsz, e2] at h
    exact h

theorem three_end {w wr : World} {ts : List Tk} {s : ByteArray} {k X Y Z : Nat} {g : Nat → Bool} (hk : k < ts.length) (hx : RowB wr X (s.size + 1) (Mr ts s (k + 1))) (hy : RowB wr Y (s.size + 1) (Nr ts s (k + 1))) (hz : RowB wr Z (s.size + 1) g) (hg : ∀ q, q ≤ s.size → g q = Mr ts s k q)
    (hxy : X ≠ Y) (hxz : X ≠ Z) (hyz : Y ≠ Z) (bx : w.heap.size ≤ X) (b2 : w.heap.size ≤ Y) (bz : w.heap.size ≤ Z) (hbel : Below w.heap.size w wr) : Three w wr ts s k Z X Y :=
  ⟨hz.congr (fun j hj => hg j (by omega)), hx.congr (fun j hj => (Nr_succ hk j).symm), ⟨_, hy⟩, fun h => hxz h.symm, fun h => hyz h.symm, hxy, bz, bx, b2, hbel⟩

theorem dr_new {ts : List Tk} {s : ByteArray} {k j : Nat} {d : Bool} (h1 : ∀ q : Nat, (q : Int) = (j : Int) + 1 → q ≤ s.size → d = Dr ts s k q) (h2 : (j : Int) = (s.size : Int) → d = false) (hj : j ≤ s.size) : Dr ts s k j = (Mr ts s k j || d) := by
  by_cases h : j = s.size
  · rw [h2 (by omega), h, Dr_end, Bool.or_false]
  · rw [Dr_step ts s k j (by omega), h1 (j + 1) (by omega) (by omega)]

def Box7 (w : World) (T : Nat) (t : Tk) : Prop := ∀ j, j < 7 → w.cell? ⟨T, j, none⟩ = some (t.cellAt j)
theorem Box7.seven {w : World} {T : Nat} {t : Tk} (h : Box7 w T t) :
    w.cell? ⟨T, 0, none⟩ = some (.int .i64 t.kind) ∧ w.cell? ⟨T, 1, none⟩ = some (.int .u8 t.b) ∧ w.cell? ⟨T, 2, none⟩ = some (.int .u64 t.s0) ∧ w.cell? ⟨T, 3, none⟩ = some (.int .u64 t.s1) ∧ w.cell? ⟨T, 4, none⟩ = some (.int .u64 t.s2) ∧ w.cell? ⟨T, 5, none⟩ = some (.int .u64 t.s3) ∧ w.cell? ⟨T, 6, none⟩ = some (.bool t.neg) :=
  ⟨h 0 (by omega), h 1 (by omega), h 2 (by omega), h 3 (by omega), h 4 (by omega), h 5 (by omega), h 6 (by omega)⟩
theorem Box7.below {w w' : World} {T : Nat} {t : Tk} (h : Box7 w T t) {B : Nat} (hB : T < B) (hb : Below B w w') : Box7 w' T t := fun j hj => by
  rw [hb.cell (p := ⟨T, j, none⟩) (by exact hB)]; exact h j hj
theorem Box7.other {w : World} {T : Nat} {t : Tk} (h : Box7 w T t) {a : Addr} (ha : ¬ T = a.block) (v : Value) : Box7 (w.setCell a v) T t := fun j hj => by
  rw [← h j hj]
  simp [World.cell?, Go.Deep.blk_setCell_other _ _ _ _ ha]
theorem box7_new (W : World) (t : Tk) (T : Nat) (hT : W.heap.size = T) : Box7 (W.alloc (.cells #[.int .i64 t.kind, .int .u8 t.b, .int .u64 t.s0, .int .u64 t.s1, .int .u64 t.s2, .int .u64 t.s3, .bool t.neg] 35)) T t := by
  subst hT
  intro j hj
  rcases (show j = 0 ∨ j = 1 ∨ j = 2 ∨ j = 3 ∨ j = 4 ∨ j = 5 ∨ j = 6 from by omega) with rfl | rfl | rfl | rfl | rfl | rfl | rfl <;> simp [Tk.cellAt, Tk.arr]

set_option maxRecDepth 100000 in
set_option maxHeartbeats 8000000 in
theorem table_any (ts : List Tk) (a : Option Addr) (cap : Nat) (s : ByteArray) (w : World) (hlen : ts.length ≤ 1048576) (hs : s.size ≤ 1048576) (hwf : ∀ t ∈ ts, t.wf) (hb : TBs w a ts) :
    Calls Try.prog 13 #[.slice a ts.length cap, .string s] w fun e w' => ∃ X, e = .returned (.slice (some ⟨X, 0, none⟩) (s.size + 1) (s.size + 1)) ∧ RowB w' X (s.size + 1) (Mr ts s 0) ∧ Below w.heap.size w w' := by
  have hmk : ∀ w, (Instr.makeSlice 28 (.int .i64 ((s.size : Int) + 1)) (.int .i64 ((s.size : Int) + 1))).run Try.prog w = .ok (.slice (some ⟨w.heap.size, 0, none⟩) (s.size + 1) (s.size + 1)) (w.alloc (.cells (madeCells #[.bool false] (s.size + 1)) 4)) :=
    fun w => run_make_row' (P := Try.prog) 28 4 (.bool false) 1 Try.underlying28 info4 rfl .i64 .i64 (s.size + 1) (by omega) (by omega) w
  obtain ⟨zs, hzs⟩ : ∃ zs, zs = madeCells #[.bool false] (s.size + 1) := ⟨_, rfl⟩
  rw [← hzs] at hmk
  have hzL : zs[s.size]? = some (.bool false) := by rw [hzs]; simp [madeCells, Nat.mod_one]
  have HZ : Hid (zs = madeCells #[.bool false] (s.size + 1)) := hzs
  clear hzs
  have HWF : Hid (∀ t ∈ ts, t.wf) := hwf
  clear hwf
  have hlz : (s.size : Int) < (s.size : Int) + 1 := by omega
  go_enter Try.func13, Try.ntmps13
  go_wp2_with fail
  clear hmk hzL
  go_loopw [7, 8, 9, 10] (fun xv yv zv iv wr => ∃ (X Y Z : Nat) (z : Int) (k' : Nat), xv = .slice (some ⟨X, 0, none⟩) (s.size + 1) (s.size + 1) ∧ yv = .slice (some ⟨Y, 0, none⟩) (s.size + 1) (s.size + 1) ∧ zv = .slice (some ⟨Z, 0, none⟩) (s.size + 1) (s.size + 1) ∧ iv = .int .i64 z ∧ z = (k' : Int) - 1 ∧ k' ≤ ts.length ∧ Three w wr ts s k' X Y Z) (fun _ _ _ iv _ => (intOf iv + 1).toNat)
  case atStart => exact ⟨_, _, _, _, ts.length, rfl, rfl, rfl, rfl, rfl, Nat.le_refl _, three_start w ts s zs HZ.out⟩
  case round =>
    obtain ⟨X, Y, Z, z, k', rfl, rfl, rfl, rfl, hz, hk', h3⟩ := hrel
    cases k' with
    | zero =>
      have hzn : z < 0 := by omega
      clear hz
      have HX : Hid (RowB wr X (s.size + 1) (Mr ts s 0)) := h3.x
      have HBL : Hid (Below w.heap.size w wr) := h3.bel
      clear h3 hb
      go_wp2_with fail
      go_ret
      exact ⟨X, rfl, HX.out, HBL.out⟩
    | succ k =>
      obtain rfl : z = (k : Int) := by omega
      have hk : k < ts.length := by omega
      have hkz : (k : Int) < (ts.length : Int) := by omega
      have hne : ts ≠ [] := by rintro rfl; simp at hk
      obtain ⟨b, off, ha, _⟩ := hb.resolve_left hne
      have hbw := hb.below (Nat.le_refl _) h3.bel
      subst ha
      obtain ⟨t, ht⟩ : ∃ t, t = ts.getD k Tk.zero := ⟨_, rfl⟩
      obtain ⟨k0, k1, k2, k3, k4, k5, k6⟩ := seven_at (tbs_cells hbw hne) k hk ht
      have HT : Hid (t = ts.getD k Tk.zero) := ht
      have HB : Hid (TBs wr (some ⟨b, off, none⟩) ts) := hbw
      have HN : Hid (ts ≠ []) := hne
      obtain ⟨hx, hy, ⟨g0, hz0⟩, hxy, hxz, hyz, bx, b2, bz, hbel⟩ := h3
      have hxl := hx.lt
      have hyl := hy.lt
      have hzl := hz0.lt
      have HXY : Hid (X ≠ Y ∧ X ≠ Z ∧ Y ≠ Z) := ⟨hxy, hxz, hyz⟩
      clear ht hbw hb hne hxy hyz hz
      by_cases hk3 : t.kind = 3
      · have HE : Hid (Mr ts s k s.size = Mr ts s (k + 1) s.size) := Mr_star_end hk HT.out hk3
        have HS : Hid (∀ j, (hj : j < s.size) → Mr ts s k j = (Mr ts s (k + 1) j || (decide (s[j] ≠ 47) && Mr ts s k (j + 1)))) := Mr_star hk HT.out hk3
        have hk3b : (t.kind == 3) = true := by rw [hk3]; rfl
        have cx := hx.cell (j := s.size) (by omega)
        have cz := hz0.cell (j := s.size) (by omega)
        have fz := hz0.frozen s.size
        go_wp2_with fail
        clear cx cz fz
        go_loopw [12] (fun jv wq => ∃ (z : Int) (g : Nat → Bool), jv = .int .i64 z ∧ -1 ≤ z ∧ z < (s.size : Int) ∧ RowB wq X (s.size + 1) (Mr ts s (k + 1)) ∧ RowB wq Y (s.size + 1) (Nr ts s (k + 1)) ∧ RowB wq Z (s.size + 1) g ∧ Hid (∀ q : Nat, z < (q : Int) → q ≤ s.size → g q = Mr ts s k q) ∧ Below w.heap.size w wq) (fun jv _ => (intOf jv + 1).toNat)
        case atStart =>
          refine ⟨_, _, rfl, by omega, by omega, (hx.other (by exact HXY.out.2.1) _).alloc _, (hy.other (by exact HXY.out.2.2) _).alloc _, (hz0.set s.size _).alloc _, ?_, (hbel.setCell (by exact bz) _).alloc (by have := hbel.size; simp; omega) _⟩
          intro q h1 h2
          obtain rfl : q = s.size := by omega
          rw [if_pos rfl, HE.out]
        case round =>
          obtain ⟨z, g, rfl, hz1, hz2, hx', hy', hz', HG, hbel'⟩ := hrel
          by_cases hz0' : 0 ≤ z
          · obtain ⟨j, rfl⟩ : ∃ j : Nat, z = (j : Int) := ⟨z.toNat, by omega⟩
            have hj : j < s.size := by omega
            have hj1 : (j : Int) < (s.size : Int) + 1 := by omega
            have hj2 : (j : Int) + 1 < (s.size : Int) + 1 := by omega
            have cx := hx'.cell (j := j) (by omega)
            have cz := hz'.cell (j := j) (by omega)
            have cz1 := hz'.cell (j := j + 1) (by omega)
            have fz := hz'.frozen j
            have hm := HS.out j hj
            rw [← HG.out (j + 1) (by omega) (by omega)] at hm
            obtain ⟨c, hcc⟩ : ∃ c, c = s[j] := ⟨_, rfl⟩
            have hcs : s[j] = c := hcc.symm
            rw [← hcc] at hm
            obtain ⟨fv, hfv⟩ : ∃ fv, fv = Mr ts s (k + 1) j := ⟨_, rfl⟩
            obtain ⟨gv, hgv⟩ : ∃ gv, gv = g (j + 1) := ⟨_, rfl⟩
            rw [← hfv, ← hgv] at hm
            rw [← hfv] at cx
            rw [← hgv] at cz1
            have HM : Hid (Mr ts s k j = (fv || (decide (c ≠ 47) && gv))) := hm
            clear hm hcc hfv hgv
            cases fv with
            | true =>
              go_wp2_with fail
              go_roundw
              case rel =>
                refine ⟨_, _, rfl, by omega, by omega, hx'.other (by exact HXY.out.2.1) _, hy'.other (by exact HXY.out.2.2) _, hz'.set j _, ?_, hbel'.setCell (by exact bz) _⟩
                intro q h1 h2
                by_cases h : q = j
                · subst h; rw [if_pos rfl, HM.out]; simp
                · rw [if_neg h]; exact HG.out q (by omega) h2
              case measure => simp [intOf]
            | false =>
              by_cases h47 : c = 47
              · have hb47 : ((c.toNat : Int) != 47) = false := by subst h47; decide
                go_wp2_with fail
                go_roundw
                case rel =>
                  refine ⟨_, _, rfl, by omega, by omega, hx'.other (by exact HXY.out.2.1) _, hy'.other (by exact HXY.out.2.2) _, hz'.set j _, ?_, hbel'.setCell (by exact bz) _⟩
                  intro q h1 h2
                  by_cases h : q = j
                  · subst h; rw [if_pos rfl, HM.out]; simp [h47]
                  · rw [if_neg h]; exact HG.out q (by omega) h2
                case measure => simp [intOf]
              · have hb47 : ((c.toNat : Int) != 47) = true := by have := byte_ne h47; simpa using this
                go_wp2_with fail
                go_roundw
                case rel =>
                  refine ⟨_, _, rfl, by omega, by omega, hx'.other (by exact HXY.out.2.1) _, hy'.other (by exact HXY.out.2.2) _, hz'.set j _, ?_, hbel'.setCell (by exact bz) _⟩
                  intro q h1 h2
                  by_cases h : q = j
                  · subst h; rw [if_pos rfl, HM.out]; simp [h47]
                  · rw [if_neg h]; exact HG.out q (by omega) h2
                case measure => simp [intOf]
          · have hzn : z < 0 := by omega
            have H3 : Hid (Three w wr ts s k Z X Y) := three_end hk hx' hy' hz' (fun q hq => HG.out q (by omega) hq) HXY.out.1 HXY.out.2.1 HXY.out.2.2 bx b2 bz hbel'
            clear hx' hy' hz' HG hx hy hz0
            go_wp2_with fail
            go_roundw
            case rel => exact ⟨Z, X, Y, _, k, rfl, rfl, rfl, rfl, rfl, by omega, H3.out⟩
            case measure => simp [intOf]
      · by_cases hk4 : t.kind = 4
        · have hk3b : (t.kind == 3) = false := by rw [hk4]; rfl
          have hk4b : (t.kind == 4) = true := by rw [hk4]; rfl
          rw [hk4] at k0
          have hS := fun j => Mr_dbl (s := s) hk HT.out hk4 j
          have hbs := hbel.size
          have R0 : Hid (∀ o, RowB (wr.alloc o) X (s.size + 1) (Mr ts s (k + 1)) ∧ RowB (wr.alloc o) Y (s.size + 1) (Nr ts s (k + 1)) ∧ RowB (wr.alloc o) Z (s.size + 1) g0 ∧ Below w.heap.size w (wr.alloc o)) := fun o => ⟨hx.alloc _, hy.alloc _, hz0.alloc _, hbel.alloc (by omega) _⟩
          clear hx hy hz0 hk3 hk4
          by_cases hk1 : k + 1 < ts.length
          · obtain ⟨tn, htn⟩ : ∃ tn, tn = ts.getD (k + 1) Tk.zero := ⟨_, rfl⟩
            obtain ⟨n0, n1, n2, n3, n4, n5, n6⟩ := seven_at (tbs_cells HB.out HN.out) (k + 1) hk1 htn
            have hsk : headSlash (ts.drop (k + 1)) = isSlash tn := by rw [tdrop_cons ts (k + 1) hk1, ← htn]; rfl
            rw [hsk] at hS
            have hk1z : (k : Int) + 1 < (ts.length : Int) := by omega
            have hbl : b < wr.heap.size := cell_lt n0
            clear htn hsk
            cases hsl : isSlash tn with
            | false =>
              rw [hsl] at hS
              have HS : Hid (∀ j, Mr ts s k j = (Dr ts s (k + 1) j || (false && Nr ts s (k + 1) j))) := hS
              clear hS
              go_wp2_with fail
              refine (isl_any tn _).mono ?_
              rintro e w5 ⟨rfl, hb5⟩
              rw [hsl]
              obtain ⟨rx, ry, rz, rb⟩ := R0.out (.cells #[.int .i64 4, .int .u8 t.b, .int .u64 t.s0, .int .u64 t.s1, .int .u64 t.s2, .int .u64 t.s3, .bool t.neg] 35)
              have e1 : ∀ o, (wr.alloc o).heap.size = wr.heap.size + 1 := fun o => by simp
              have RX : Hid (RowB w5 X (s.size + 1) (Mr ts s (k + 1))) := rx.below (by rw [e1]; omega) hb5
              have RY : Hid (RowB w5 Y (s.size + 1) (Nr ts s (k + 1))) := ry.below (by rw [e1]; omega) hb5
              have RZ : Hid (RowB w5 Z (s.size + 1) g0) := rz.below (by rw [e1]; omega) hb5
              have RB : Hid (Below w.heap.size w w5) := rb.trans (hb5.mono (by rw [e1]; omega))
              clear rx ry rz rb e1 hb5 k0 k1 k2 k3 k4 k5 k6 n0 n1 n2 n3 n4 n5 n6 hbel R0
              go_wp2_with fail
              go_loopw [14, 15] (fun dv jv wq => ∃ (z : Int) (g : Nat → Bool) (d : Bool), dv = .bool d ∧ jv = .int .i64 z ∧ -1 ≤ z ∧ z ≤ (s.size : Int) ∧ RowB wq X (s.size + 1) (Mr ts s (k + 1)) ∧ RowB wq Y (s.size + 1) (Nr ts s (k + 1)) ∧ RowB wq Z (s.size + 1) g ∧ Hid (∀ q : Nat, z < (q : Int) → q ≤ s.size → g q = Mr ts s k q) ∧ Hid ((∀ q : Nat, (q : Int) = z + 1 → q ≤ s.size → d = Dr ts s (k + 1) q) ∧ (z = (s.size : Int) → d = false)) ∧ Below w.heap.size w wq) (fun _ jv _ => (intOf jv + 1).toNat)
              case atStart => exact ⟨_, g0, false, rfl, rfl, by omega, by omega, RX.out, RY.out, RZ.out, fun q h1 h2 => by omega, ⟨fun q h1 h2 => by omega, fun _ => rfl⟩, RB.out⟩
              case round =>
                obtain ⟨z, g, d, rfl, rfl, hz1, hz2, hx', hy', hz', HG, HD, hbel'⟩ := hrel
                by_cases hz0' : 0 ≤ z
                · obtain ⟨j, rfl⟩ : ∃ j : Nat, z = (j : Int) := ⟨z.toNat, by omega⟩
                  have hj1 : (j : Int) < (s.size : Int) + 1 := by omega
                  have cx := hx'.cell (j := j) (by omega)
                  have cy := hy'.cell (j := j) (by omega)
                  have cz := hz'.cell (j := j) (by omega)
                  have fz := hz'.frozen j
                  have hm := HS.out j
                  have hdr : Dr ts s (k + 1) j = (Mr ts s (k + 1) j || d) := dr_new HD.out.1 HD.out.2 (by omega)
                  rw [hdr] at hm
                  obtain ⟨fv, hfv⟩ : ∃ fv, fv = Mr ts s (k + 1) j := ⟨_, rfl⟩
                  obtain ⟨nv, hnv⟩ : ∃ nv, nv = Nr ts s (k + 1) j := ⟨_, rfl⟩
                  rw [← hfv, ← hnv] at hm
                  rw [← hfv] at cx hdr
                  rw [← hnv] at cy
                  have HM : Hid (Mr ts s k j = ((fv || d) || (false && nv))) := hm
                  have HDR : Hid (Dr ts s (k + 1) j = (fv || d)) := hdr
                  clear hm hfv hnv hdr
                  cases fv
                  all_goals
                    cases nv
                    all_goals
                      go_wp2_with fail
                      go_roundw
                      case rel =>
                        refine ⟨_, _, _, rfl, rfl, by omega, by omega, hx'.other (by exact HXY.out.2.1) _, hy'.other (by exact HXY.out.2.2) _, hz'.set j _, ?_, ?_, hbel'.setCell (by exact bz) _⟩
                        · intro q h1 h2
                          by_cases h : q = j
                          · subst h; rw [if_pos rfl, HM.out]; simp
                          · rw [if_neg h]; exact HG.out q (by omega) h2
                        · refine ⟨fun q h1 h2 => ?_, fun h => by omega⟩
                          obtain rfl : q = j := by omega
                          rw [HDR.out]; simp
                      case measure => simp [intOf]
                · have hzn : z < 0 := by omega
                  have H3 : Hid (Three w wr ts s k Z X Y) := three_end hk hx' hy' hz' (fun q hq => HG.out q (by omega) hq) HXY.out.1 HXY.out.2.1 HXY.out.2.2 bx b2 bz hbel'
                  clear hx' hy' hz' HG HD
                  go_wp2_with fail
                  go_roundw
                  case rel => exact ⟨Z, X, Y, _, k, rfl, rfl, rfl, rfl, rfl, by omega, H3.out⟩
                  case measure => simp [intOf]
            | true =>
              rw [hsl] at hS
              have HS : Hid (∀ j, Mr ts s k j = (Dr ts s (k + 1) j || (true && Nr ts s (k + 1) j))) := hS
              clear hS
              go_wp2_with fail
              refine (isl_any tn _).mono ?_
              rintro e w5 ⟨rfl, hb5⟩
              rw [hsl]
              obtain ⟨rx, ry, rz, rb⟩ := R0.out (.cells #[.int .i64 4, .int .u8 t.b, .int .u64 t.s0, .int .u64 t.s1, .int .u64 t.s2, .int .u64 t.s3, .bool t.neg] 35)
              have e1 : ∀ o, (wr.alloc o).heap.size = wr.heap.size + 1 := fun o => by simp
              have RX : Hid (RowB w5 X (s.size + 1) (Mr ts s (k + 1))) := rx.below (by rw [e1]; omega) hb5
              have RY : Hid (RowB w5 Y (s.size + 1) (Nr ts s (k + 1))) := ry.below (by rw [e1]; omega) hb5
              have RZ : Hid (RowB w5 Z (s.size + 1) g0) := rz.below (by rw [e1]; omega) hb5
              have RB : Hid (Below w.heap.size w w5) := rb.trans (hb5.mono (by rw [e1]; omega))
              clear rx ry rz rb e1 hb5 k0 k1 k2 k3 k4 k5 k6 n0 n1 n2 n3 n4 n5 n6 hbel R0
              go_wp2_with fail
              go_loopw [14, 15] (fun dv jv wq => ∃ (z : Int) (g : Nat → Bool) (d : Bool), dv = .bool d ∧ jv = .int .i64 z ∧ -1 ≤ z ∧ z ≤ (s.size : Int) ∧ RowB wq X (s.size + 1) (Mr ts s (k + 1)) ∧ RowB wq Y (s.size + 1) (Nr ts s (k + 1)) ∧ RowB wq Z (s.size + 1) g ∧ Hid (∀ q : Nat, z < (q : Int) → q ≤ s.size → g q = Mr ts s k q) ∧ Hid ((∀ q : Nat, (q : Int) = z + 1 → q ≤ s.size → d = Dr ts s (k + 1) q) ∧ (z = (s.size : Int) → d = false)) ∧ Below w.heap.size w wq) (fun _ jv _ => (intOf jv + 1).toNat)
              case atStart => exact ⟨_, g0, false, rfl, rfl, by omega, by omega, RX.out, RY.out, RZ.out, fun q h1 h2 => by omega, ⟨fun q h1 h2 => by omega, fun _ => rfl⟩, RB.out⟩
              case round =>
                obtain ⟨z, g, d, rfl, rfl, hz1, hz2, hx', hy', hz', HG, HD, hbel'⟩ := hrel
                by_cases hz0' : 0 ≤ z
                · obtain ⟨j, rfl⟩ : ∃ j : Nat, z = (j : Int) := ⟨z.toNat, by omega⟩
                  have hj1 : (j : Int) < (s.size : Int) + 1 := by omega
                  have cx := hx'.cell (j := j) (by omega)
                  have cy := hy'.cell (j := j) (by omega)
                  have cz := hz'.cell (j := j) (by omega)
                  have fz := hz'.frozen j
                  have hm := HS.out j
                  have hdr : Dr ts s (k + 1) j = (Mr ts s (k + 1) j || d) := dr_new HD.out.1 HD.out.2 (by omega)
                  rw [hdr] at hm
                  obtain ⟨fv, hfv⟩ : ∃ fv, fv = Mr ts s (k + 1) j := ⟨_, rfl⟩
                  obtain ⟨nv, hnv⟩ : ∃ nv, nv = Nr ts s (k + 1) j := ⟨_, rfl⟩
                  rw [← hfv, ← hnv] at hm
                  rw [← hfv] at cx hdr
                  rw [← hnv] at cy
                  have HM : Hid (Mr ts s k j = ((fv || d) || (true && nv))) := hm
                  have HDR : Hid (Dr ts s (k + 1) j = (fv || d)) := hdr
                  clear hm hfv hnv hdr
                  cases fv
                  all_goals
                    cases nv
                    all_goals
                      go_wp2_with fail
                      go_roundw
                      case rel =>
                        refine ⟨_, _, _, rfl, rfl, by omega, by omega, hx'.other (by exact HXY.out.2.1) _, hy'.other (by exact HXY.out.2.2) _, hz'.set j _, ?_, ?_, hbel'.setCell (by exact bz) _⟩
                        · intro q h1 h2
                          by_cases h : q = j
                          · subst h; rw [if_pos rfl, HM.out]; simp
                          · rw [if_neg h]; exact HG.out q (by omega) h2
                        · refine ⟨fun q h1 h2 => ?_, fun h => by omega⟩
                          obtain rfl : q = j := by omega
                          rw [HDR.out]; simp
                      case measure => simp [intOf]
                · have hzn : z < 0 := by omega
                  have H3 : Hid (Three w wr ts s k Z X Y) := three_end hk hx' hy' hz' (fun q hq => HG.out q (by omega) hq) HXY.out.1 HXY.out.2.1 HXY.out.2.2 bx b2 bz hbel'
                  clear hx' hy' hz' HG HD
                  go_wp2_with fail
                  go_roundw
                  case rel => exact ⟨Z, X, Y, _, k, rfl, rfl, rfl, rfl, rfl, by omega, H3.out⟩
                  case measure => simp [intOf]
          · have hsk : headSlash (ts.drop (k + 1)) = false := by rw [List.drop_eq_nil_of_le (by omega)]; rfl
            rw [hsk] at hS
            have HS : Hid (∀ j, Mr ts s k j = (Dr ts s (k + 1) j || (false && Nr ts s (k + 1) j))) := hS
            have hk1z : (ts.length : Int) ≤ (k : Int) + 1 := by omega
            have hk1d : decide ((k : Int) + 1 < (ts.length : Int)) = false := by simp; omega
            clear hS hsk hk1
            go_wp2_with fail
            obtain ⟨rx, ry, rz, rb⟩ := R0.out (.cells #[.int .i64 4, .int .u8 t.b, .int .u64 t.s0, .int .u64 t.s1, .int .u64 t.s2, .int .u64 t.s3, .bool t.neg] 35)
            have RX : Hid (RowB (wr.alloc (.cells #[.int .i64 4, .int .u8 t.b, .int .u64 t.s0, .int .u64 t.s1, .int .u64 t.s2, .int .u64 t.s3, .bool t.neg] 35)) X (s.size + 1) (Mr ts s (k + 1))) := rx
            have RY : Hid (RowB (wr.alloc (.cells #[.int .i64 4, .int .u8 t.b, .int .u64 t.s0, .int .u64 t.s1, .int .u64 t.s2, .int .u64 t.s3, .bool t.neg] 35)) Y (s.size + 1) (Nr ts s (k + 1))) := ry
            have RZ : Hid (RowB (wr.alloc (.cells #[.int .i64 4, .int .u8 t.b, .int .u64 t.s0, .int .u64 t.s1, .int .u64 t.s2, .int .u64 t.s3, .bool t.neg] 35)) Z (s.size + 1) g0) := rz
            have RB : Hid (Below w.heap.size w (wr.alloc (.cells #[.int .i64 4, .int .u8 t.b, .int .u64 t.s0, .int .u64 t.s1, .int .u64 t.s2, .int .u64 t.s3, .bool t.neg] 35))) := rb
            clear rx ry rz rb R0 hbel
            go_loopw [14, 15] (fun dv jv wq => ∃ (z : Int) (g : Nat → Bool) (d : Bool), dv = .bool d ∧ jv = .int .i64 z ∧ -1 ≤ z ∧ z ≤ (s.size : Int) ∧ RowB wq X (s.size + 1) (Mr ts s (k + 1)) ∧ RowB wq Y (s.size + 1) (Nr ts s (k + 1)) ∧ RowB wq Z (s.size + 1) g ∧ Hid (∀ q : Nat, z < (q : Int) → q ≤ s.size → g q = Mr ts s k q) ∧ Hid ((∀ q : Nat, (q : Int) = z + 1 → q ≤ s.size → d = Dr ts s (k + 1) q) ∧ (z = (s.size : Int) → d = false)) ∧ Below w.heap.size w wq) (fun _ jv _ => (intOf jv + 1).toNat)
            case atStart => exact ⟨_, g0, false, rfl, rfl, by omega, by omega, RX.out, RY.out, RZ.out, fun q h1 h2 => by omega, ⟨fun q h1 h2 => by omega, fun _ => rfl⟩, RB.out⟩
            case round =>
              obtain ⟨z, g, d, rfl, rfl, hz1, hz2, hx', hy', hz', HG, HD, hbel'⟩ := hrel
              by_cases hz0' : 0 ≤ z
              · obtain ⟨j, rfl⟩ : ∃ j : Nat, z = (j : Int) := ⟨z.toNat, by omega⟩
                have hj1 : (j : Int) < (s.size : Int) + 1 := by omega
                have cx := hx'.cell (j := j) (by omega)
                have cy := hy'.cell (j := j) (by omega)
                have cz := hz'.cell (j := j) (by omega)
                have fz := hz'.frozen j
                have hm := HS.out j
                have hdr : Dr ts s (k + 1) j = (Mr ts s (k + 1) j || d) := dr_new HD.out.1 HD.out.2 (by omega)
                rw [hdr] at hm
                obtain ⟨fv, hfv⟩ : ∃ fv, fv = Mr ts s (k + 1) j := ⟨_, rfl⟩
                obtain ⟨nv, hnv⟩ : ∃ nv, nv = Nr ts s (k + 1) j := ⟨_, rfl⟩
                rw [← hfv, ← hnv] at hm
                rw [← hfv] at cx hdr
                rw [← hnv] at cy
                have HM : Hid (Mr ts s k j = ((fv || d) || (false && nv))) := hm
                have HDR : Hid (Dr ts s (k + 1) j = (fv || d)) := hdr
                clear hm hfv hnv hdr
                cases fv
                all_goals
                  cases nv
                  all_goals
                    go_wp2_with fail
                    go_roundw
                    case rel =>
                      refine ⟨_, _, _, rfl, rfl, by omega, by omega, hx'.other (by exact HXY.out.2.1) _, hy'.other (by exact HXY.out.2.2) _, hz'.set j _, ?_, ?_, hbel'.setCell (by exact bz) _⟩
                      · intro q h1 h2
                        by_cases h : q = j
                        · subst h; rw [if_pos rfl, HM.out]; simp
                        · rw [if_neg h]; exact HG.out q (by omega) h2
                      · refine ⟨fun q h1 h2 => ?_, fun h => by omega⟩
                        obtain rfl : q = j := by omega
                        rw [HDR.out]; simp
                    case measure => simp [intOf]
              · have hzn : z < 0 := by omega
                have H3 : Hid (Three w wr ts s k Z X Y) := three_end hk hx' hy' hz' (fun q hq => HG.out q (by omega) hq) HXY.out.1 HXY.out.2.1 HXY.out.2.2 bx b2 bz hbel'
                clear hx' hy' hz' HG HD
                go_wp2_with fail
                go_roundw
                case rel => exact ⟨Z, X, Y, _, k, rfl, rfl, rfl, rfl, rfl, by omega, H3.out⟩
                case measure => simp [intOf]
        · have hk3b : (t.kind == 3) = false := by simpa using hk3
          have hk4b : (t.kind == 4) = false := by simpa using hk4
          have HE : Hid (Mr ts s k s.size = false) := Mr_one_end hk HT.out hk3 hk4
          have HS : Hid (∀ j, (hj : j < s.size) → Mr ts s k j = (Mr ts s (k + 1) (j + 1) && one t s[j])) := Mr_one hk HT.out hk3 hk4
          have htw : t.wf := by
            rw [HT.out]
            have e : ts.getD k Tk.zero = ts[k] := by simp [List.getD, hk]
            rw [e]; exact HWF.out _ (List.getElem_mem _)
          have HTW : Hid t.wf := htw
          have cz := hz0.cell (j := s.size) (by omega)
          have fz := hz0.frozen s.size
          clear htw hk3 hk4
          go_wp2_with fail
          have hbs := hbel.size
          have RX : Hid (RowB ((wr.setCell ⟨Z, s.size, none⟩ (.bool false)).alloc (.cells #[.int .i64 t.kind, .int .u8 t.b, .int .u64 t.s0, .int .u64 t.s1, .int .u64 t.s2, .int .u64 t.s3, .bool t.neg] 35)) X (s.size + 1) (Mr ts s (k + 1))) := (hx.other (by exact HXY.out.2.1) _).alloc _
          have RY : Hid (RowB ((wr.setCell ⟨Z, s.size, none⟩ (.bool false)).alloc (.cells #[.int .i64 t.kind, .int .u8 t.b, .int .u64 t.s0, .int .u64 t.s1, .int .u64 t.s2, .int .u64 t.s3, .bool t.neg] 35)) Y (s.size + 1) (Nr ts s (k + 1))) := (hy.other (by exact HXY.out.2.2) _).alloc _
          have RZ : Hid (RowB ((wr.setCell ⟨Z, s.size, none⟩ (.bool false)).alloc (.cells #[.int .i64 t.kind, .int .u8 t.b, .int .u64 t.s0, .int .u64 t.s1, .int .u64 t.s2, .int .u64 t.s3, .bool t.neg] 35)) Z (s.size + 1) (fun q => if q = s.size then false else g0 q)) := (hz0.set s.size _).alloc _
          have RB : Hid (Below w.heap.size w ((wr.setCell ⟨Z, s.size, none⟩ (.bool false)).alloc (.cells #[.int .i64 t.kind, .int .u8 t.b, .int .u64 t.s0, .int .u64 t.s1, .int .u64 t.s2, .int .u64 t.s3, .bool t.neg] 35))) := (hbel.setCell (by exact bz) _).alloc (by simp; omega) _
          obtain ⟨T, hT⟩ : ∃ T, T = wr.heap.size := ⟨_, rfl⟩
          have RT : Hid (Box7 ((wr.setCell ⟨Z, s.size, none⟩ (.bool false)).alloc (.cells #[.int .i64 t.kind, .int .u8 t.b, .int .u64 t.s0, .int .u64 t.s1, .int .u64 t.s2, .int .u64 t.s3, .bool t.neg] 35)) T t) := box7_new _ t T (by simp [hT])
          rw [← hT]
          have hTX : ¬ T = X := by omega
          have hTZ : ¬ T = Z := by omega
          have hXT : ¬ X = T := by omega
          have hZT : ¬ Z = T := by omega
          have hXZ : ¬ X = Z := HXY.out.2.1
          have hZX : ¬ Z = X := fun h => HXY.out.2.1 h.symm
          clear hT cz fz hbel hx hy hz0 k0 k1 k2 k3 k4 k5 k6 hxl hyl hzl hbs HB
          go_loopw [17] (fun jv wq => ∃ (m : Nat) (g : Nat → Bool), jv = .int .i64 (m : Int) ∧ m ≤ s.size ∧ RowB wq X (s.size + 1) (Mr ts s (k + 1)) ∧ RowB wq Y (s.size + 1) (Nr ts s (k + 1)) ∧ RowB wq Z (s.size + 1) g ∧ Hid ((∀ q : Nat, q < m → g q = Mr ts s k q) ∧ g s.size = Mr ts s k s.size) ∧ Box7 wq T t ∧ Below w.heap.size w wq) (fun jv _ => s.size - (intOf jv).toNat)
          case atStart => exact ⟨0, _, rfl, by omega, RX.out, RY.out, RZ.out, ⟨fun q hq => by omega, by rw [if_pos rfl, HE.out]⟩, RT.out, RB.out⟩
          case round =>
            obtain ⟨j, g, rfl, hjl, hx', hy', hz', HG, hbox, hbel'⟩ := hrel
            by_cases hj : j < s.size
            · have hjz : (j : Int) < (s.size : Int) := by omega
              have hj1 : (j : Int) < (s.size : Int) + 1 := by omega
              have hj2 : (j : Int) + 1 < (s.size : Int) + 1 := by omega
              have hj0 : (0 : Int) ≤ (j : Int) + 1 := by omega
              have hjw : IntKind.i64.wrap ((j : Int) + 1) = (j : Int) + 1 := by rw [IntKind.wrap_i64]; omega
              have cx := hx'.cell (j := j + 1) (by omega)
              have cz := hz'.cell (j := j) (by omega)
              have fz := hz'.frozen j
              have hm := HS.out j hj
              obtain ⟨c, hcc⟩ : ∃ c, c = s[j] := ⟨_, rfl⟩
              have hcs : s[j] = c := hcc.symm
              rw [← hcc] at hm
              obtain ⟨fv, hfv⟩ : ∃ fv, fv = Mr ts s (k + 1) (j + 1) := ⟨_, rfl⟩
              rw [← hfv] at hm cx
              have HFV : Hid (Mr ts s (k + 1) (j + 1) = fv) := hfv.symm
              have HM : Hid (Mr ts s k j = (fv && one t c)) := hm
              obtain ⟨b0, b1, b2, b3, b4, b5, b6⟩ := hbox.seven
              have HR : Hid (RowB wr X (s.size + 1) (Mr ts s (k + 1)) ∧ RowB wr Y (s.size + 1) (Nr ts s (k + 1)) ∧ RowB wr Z (s.size + 1) g ∧ Box7 wr T t ∧ Below w.heap.size w wr) := ⟨hx', hy', hz', hbox, hbel'⟩
              have hXl := hx'.lt
              have hYl := hy'.lt
              have hZl := hz'.lt
              have hTl : T < wr.heap.size := cell_lt b0
              clear hm hcc hfv hx' hy' hz' hbox hbel'
              cases fv with
              | true =>
                go_wp2_with fail
                go_region_held3 (fun w' => w'.cell? ⟨T, 0, none⟩ = some (.int .i64 t.kind) ∧ w'.cell? ⟨T, 1, none⟩ = some (.int .u8 t.b) ∧ w'.cell? ⟨T, 2, none⟩ = some (.int .u64 t.s0) ∧ w'.cell? ⟨T, 3, none⟩ = some (.int .u64 t.s1) ∧ w'.cell? ⟨T, 4, none⟩ = some (.int .u64 t.s2) ∧ w'.cell? ⟨T, 5, none⟩ = some (.int .u64 t.s3) ∧ w'.cell? ⟨T, 6, none⟩ = some (.bool t.neg) ∧ w'.cell? ⟨X, j + 1, none⟩ = some (.bool true)) (go_keep)
                  ((go_at_call 29; refine (one_any t HTW.out c _).mono ?_; rintro e w5 ⟨rfl, hb5⟩
                    have hbd : Below wr.heap.size wr w5 := ((Below.refl _ _).drew).trans hb5
                    obtain ⟨q0, q1, q2, q3, q4, q5, q6⟩ := (HR.out.2.2.2.1.below hTl hbd).seven
                    have cx5 := (HR.out.1.below hXl hbd).cell (j := j + 1) (by omega)
                    rw [HFV.out] at cx5
                    have cz5 := (HR.out.2.2.1.below hZl hbd).cell (j := j) (by omega)
                    have fz5 := (HR.out.2.2.1.below hZl hbd).frozen j))
                go_wp2_with fail
                go_roundw
                case rel =>
                  obtain ⟨hx', hy', hz', hbox, hbel'⟩ := HR.out
                  refine ⟨j + 1, _, by go_num, by omega, (hx'.below hXl hbd).other (by exact HXY.out.2.1) _, (hy'.below hYl hbd).other (by exact HXY.out.2.2) _, (hz'.below hZl hbd).set j _, ⟨fun q hq => ?_, ?_⟩, (hbox.below hTl hbd).other hTZ _, (hbel'.trans (hbd.mono (by have := hbel'.size; omega))).setCell (by exact bz) _⟩
                  · by_cases h : q = j
                    · subst h; rw [if_pos rfl, HM.out]; simp
                    · rw [if_neg h]; exact HG.out.1 q (by omega)
                  · rw [if_neg (by omega)]; exact HG.out.2
                case measure => simp [intOf]; omega
              | false =>
                go_wp2_with fail
                go_big_region
                go_wp2_with fail
                go_roundw
                case rel =>
                  obtain ⟨hx', hy', hz', hbox, hbel'⟩ := HR.out
                  refine ⟨j + 1, _, by go_num, by omega, hx'.other (by exact HXY.out.2.1) _, hy'.other (by exact HXY.out.2.2) _, hz'.set j _, ⟨fun q hq => ?_, ?_⟩, hbox.other hTZ _, hbel'.drew.setCell (by exact bz) _⟩
                  · by_cases h : q = j
                    · subst h; rw [if_pos rfl, HM.out]; simp
                    · rw [if_neg h]; exact HG.out.1 q (by omega)
                  · rw [if_neg (by omega)]; exact HG.out.2
                case measure => simp [intOf]; omega
            · obtain rfl : j = s.size := by omega
              have H3 : Hid (Three w wr ts s k Z X Y) := three_end hk hx' hy' hz' (fun q hq => by
                by_cases h : q = s.size
                · rw [h]; exact HG.out.2
                · exact HG.out.1 q (by omega)) HXY.out.1 HXY.out.2.1 HXY.out.2.2 bx b2 bz hbel'
              clear hx' hy' hz' HG hbox
              go_wp2_with fail
              go_roundw
              case rel => exact ⟨Z, X, Y, _, k, rfl, rfl, rfl, rfl, rfl, by omega, H3.out⟩
              case measure => simp [intOf]
end Go.Proofs.Qxb6603216a
