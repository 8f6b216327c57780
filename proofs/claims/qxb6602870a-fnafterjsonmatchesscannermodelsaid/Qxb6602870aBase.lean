import Derived.Test.Qxb6602870aShelf
import Derived.Test.Qxb6602870aPlain
import Derived.WalkLawsBesides
import Derived.WalkSpells
import Derived.Deep.OwnRows
import Derived.Lib.SliceRun
import Derived.OpenShut
namespace Go.Proofs.Qxb6602870a
open Go.RowKit

theorem info5 : (Try.prog.info? 5).map (fun i => (i.zero, i.size, i.bytes)) = some (some (.int .u8 0), 1, 1) := by kernel_rfl

/-- A slice's value leads to these numbers. -/
def Bs (k : IntKind) (w : World) (a : Option Addr) (l : List Int) : Prop :=
  l = [] ∨ ∃ b off, a = some ⟨b, off, none⟩ ∧ ∀ i, i < l.length → w.cell? ⟨b, off + i, none⟩ = some (.int k (l.getD i 0))

theorem cell_lt {w : World} {p : Addr} {v : Value} (h : w.cell? p = some v) : p.block < w.heap.size := by
  by_cases hb : p.block < w.heap.size
  · exact hb
  · have : w.heap[p.block]? = none := by simp; omega
    simp [World.cell?, this] at h

theorem Bs.below {k : IntKind} {w w' : World} {a : Option Addr} {l : List Int} (h : Bs k w a l) {B : Nat} (hB : w.heap.size ≤ B) (hb : Below B w w') : Bs k w' a l := by
  rcases h with h | ⟨b, off, h, hc⟩
  · exact .inl h
  · refine .inr ⟨b, off, h, fun i hi => ?_⟩
    have h1 := hc i hi
    rw [hb.cell (p := ⟨b, off + i, none⟩) (by have := cell_lt h1; simp at this ⊢; omega)]
    exact h1

theorem Bs.of_row {k : IntKind} {w : World} {t b n : Nat} {f : Nat → Value} {l : List Int} (h : w.rowIs b t n f) (hn : l.length ≤ n) (hf : ∀ i, i < l.length → f i = .int k (l.getD i 0)) : Bs k w (some ⟨b, 0, none⟩) l := by
  refine .inr ⟨b, 0, rfl, fun i hi => ?_⟩
  rw [← hf i hi, Nat.zero_add]
  exact h.cell (by omega)

def IsRow (k : IntKind) (w : World) (a : Option Addr) (len cap : Nat) (zs : List Int) : Prop :=
  (a = none ∧ len = 0 ∧ cap = 0 ∧ zs = []) ∨
  ∃ x, a = some x ∧ len ≤ cap ∧ cap ≤ maxLen ∧ zs.length = cap ∧ (∀ i, i < zs.length → w.cell? (x.add i) = some (.int k (zs.getD i 0))) ∧ ∀ n ∈ zs, (Lit.int k n).wf = true

theorem row_bs {k : IntKind} {w : World} {a : Option Addr} {len cap : Nat} {zs : List Int} (h : IsRow k w a len cap zs) :
    len ≤ maxLen ∧ ∃ l : List Int, l.length = len ∧ (∀ x ∈ l, (Lit.int k x).wf = true) ∧ Bs k w a l ∧ (a = none → l = []) := by
  rcases h with ⟨rfl, rfl, rfl, rfl⟩ | ⟨x, rfl, hl, hm, hz, hc, hwf⟩
  · exact ⟨Nat.zero_le _, [], rfl, by simp, .inl rfl, fun _ => rfl⟩
  · refine ⟨by omega, zs.take len, by simp; omega, ?_, ?_, by simp⟩
    · intro y hy
      exact hwf y (List.mem_of_mem_take hy)
    · by_cases h0 : len = 0
      · subst h0; exact .inl (by simp)
      · obtain ⟨b, off, spot⟩ := x
        have hs : spot = none := by simpa [Addr.add] using World.cell?_spot (hc 0 (by omega))
        subst hs
        refine .inr ⟨b, off, rfl, fun i hi => ?_⟩
        simp at hi
        have := hc i (by omega)
        rw [show (List.take len zs).getD i 0 = zs.getD i 0 from by simp [List.getD, show i < len from by omega]]
        rw [← this, WideShapes.add_plain]

/-! ### The two clones -/
theorem clone_none (len cap : Nat) (w : World) :
    Calls Try.prog 8 #[.slice none len cap] w fun e w' => e = .returned (.slice none 0 0) ∧ w = w' := by
  have hnil := fun (w : World) (a : Option Addr) (n c n' c' : Nat) => Lib.run_eql_slice_nil w 22 5 a n c n' c' Try.underlying22
  go_enter Try.func8, Try.ntmps8
  go_wp2_with fail
  go_ret
  exact ⟨rfl, rfl⟩

theorem clone_empty (x : Addr) (cap : Nat) (w : World) :
    Calls Try.prog 8 #[.slice (some x) 0 cap] w fun e w' => e = .returned (.slice (some ⟨w.heap.size, 0, none⟩) 0 0) ∧ Below w.heap.size w w' := by
  have hnil := fun (w : World) (a : Option Addr) (n c n' c' : Nat) => Lib.run_eql_slice_nil w 22 5 a n c n' c' Try.underlying22
  have hmk : ∀ w, (Instr.makeSlice 22 (.int .i64 0) (.int .i64 0)).run Try.prog w = .ok (.slice (some ⟨w.heap.size, 0, none⟩) 0 0) (w.alloc (.cells (madeCells #[.int .u8 0] 0) 5)) := fun w => run_make_row' (P := Try.prog) 22 5 (.int .u8 0) 1 Try.underlying22 info5 rfl .i64 .i64 0 (by omega) (by omega) w
  go_enter Try.func8, Try.ntmps8
  go_wp2_with fail
  refine wp_loop_rounds 1 ?_
  rw [rounds_succ]
  go_wp2_with fail
  go_ret
  exact ⟨rfl, (Below.refl _ _).alloc (Nat.le_refl _) _⟩

set_option maxHeartbeats 400000 in
theorem clone_some (l : List Int) (b off cap : Nat) (hlen : l.length ≤ 1073741824) (w : World) (hb : b < w.heap.size)
    (hc : ∀ i, i < l.length → w.cell? ⟨b, off + i, none⟩ = some (.int .u8 (l.getD i 0))) :
    Calls Try.prog 8 #[.slice (some ⟨b, off, none⟩) l.length cap] w fun e w' => e = .returned (.slice (some ⟨w.heap.size, 0, none⟩) l.length l.length) ∧ Below w.heap.size w w' ∧ w'.rowIs w.heap.size 5 l.length (fun i => .int .u8 (l.getD i 0)) := by
  have hnil := fun (w : World) (a : Option Addr) (n c n' c' : Nat) => Lib.run_eql_slice_nil w 22 5 a n c n' c' Try.underlying22
  have hmk := fun w => run_make_row' (P := Try.prog) 22 5 (.int .u8 0) 1 Try.underlying22 info5 rfl .i64 .i64 l.length (by omega) (by omega) w
  go_enter Try.func8, Try.ntmps8
  go_wp2_with fail
  clear hnil hmk
  go_loopw [4] (fun v wr => ∃ k : Nat, k ≤ l.length ∧ v = .int .i64 k ∧ wr.rowIs w.heap.size 5 l.length (fun i => if i < k then .int .u8 (l.getD i 0) else .int .u8 0) ∧ Below w.heap.size w wr) (fun v _ => l.length - (intOf v).toNat)
  case atStart => exact ⟨0, by omega, rfl, (World.rowIs_made _ _ _ _).congr (by intro i hi; simp), (Below.refl _ _).alloc (Nat.le_refl _) _⟩
  case round =>
    obtain ⟨k, hk, rfl, hrow, hbel⟩ := hrel
    by_cases hlt : k < l.length
    · have hcell := hc k hlt
      rw [← hbel.cell (p := ⟨b, off + k, none⟩) (by simp; omega)] at hcell
      obtain ⟨c, hcc⟩ : ∃ c, c = l.getD k 0 := ⟨_, rfl⟩
      rw [← hcc] at hcell
      have HC : Hid (c = l.getD k 0) := hcc
      have HB : Hid (∀ i, i < l.length → w.cell? ⟨b, off + i, none⟩ = some (.int .u8 (l.getD i 0))) := hc
      clear hcc hc
      have hdst := hrow.cell hlt
      have hfr := hrow.frozen k
      simp only [Nat.lt_irrefl, if_false] at hdst
      go_wp2_with fail
      go_roundw
      case rel =>
        refine ⟨k + 1, by omega, by go_num, (hrow.set k _).congr ?_, hbel.setCell (Nat.le_refl _) _⟩
        intro i hi
        by_cases h : i = k
        · subst h; simp [HC.out]
        · simp only [h, if_false]
          by_cases h2 : i < k
          · rw [if_pos h2, if_pos (by omega)]
          · rw [if_neg h2, if_neg (by omega)]
      case measure => simp [intOf]; omega
    · obtain rfl : k = l.length := by omega
      go_wp2_with fail
      go_ret
      exact ⟨rfl, hbel, hrow.congr (fun i hi => if_pos hi)⟩

theorem clone_any (l : List Int) (a : Option Addr) (cap : Nat) (hlen : l.length ≤ 1073741824) (w : World) (hb : Bs .u8 w a l) (hn : a = none → l = []) :
    Calls Try.prog 8 #[.slice a l.length cap] w fun e w' => ∃ a' c', e = .returned (.slice a' l.length c') ∧ Bs .u8 w' a' l ∧ Below w.heap.size w w' ∧ (a' = none → l.length = 0 ∧ c' = 0) := by
  cases a with
  | none =>
    obtain rfl := hn rfl
    refine (clone_none 0 cap w).mono ?_
    rintro e w' ⟨rfl, rfl⟩
    exact ⟨none, 0, rfl, .inl rfl, Below.refl _ _, fun _ => ⟨rfl, rfl⟩⟩
  | some x =>
    by_cases h : l = []
    · subst h
      refine (clone_empty x cap w).mono ?_
      rintro e w' ⟨rfl, hbel⟩
      exact ⟨_, 0, rfl, .inl rfl, hbel, fun h => by cases h⟩
    · obtain ⟨b, off, hx, hc⟩ := hb.resolve_left h
      cases hx
      have hpos : 0 < l.length := List.length_pos_iff.2 h
      refine (clone_some l b off cap hlen w (by simpa using cell_lt (hc 0 hpos)) hc).mono ?_
      rintro e w' ⟨rfl, hbel, hrow⟩
      exact ⟨_, _, rfl, Bs.of_row hrow (Nat.le_refl _) (fun _ _ => rfl), hbel, fun h => by cases h⟩


theorem isspace_any (c : Int) (w : World) :
    Calls Try.prog 23 #[.int .u8 c] w fun e w' => e = .returned (.bool (isSp c)) ∧ w = w' := by
  rcases (show c = 32 ∨ c = 9 ∨ c = 10 ∨ c = 13 ∨ (¬ c = 32 ∧ ¬ c = 9 ∧ ¬ c = 10 ∧ ¬ c = 13) from by omega) with rfl | rfl | rfl | rfl | ⟨h1, h2, h3, h4⟩
  case inr.inr.inr.inr =>
    have g1 : (c == 32) = false := by simpa using h1
    have g2 : (c == 9) = false := by simpa using h2
    have g3 : (c == 10) = false := by simpa using h3
    have g4 : (c == 13) = false := by simpa using h4
    have e : isSp c = false := by simp [isSp, g1, g2, g3, g4]
    rw [e]
    go_enter Try.func23, Try.ntmps23
    go_wp2
    go_ret
    exact ⟨rfl, rfl⟩
  all_goals
    go_enter Try.func23, Try.ntmps23
    go_wp2
    go_ret
    exact ⟨rfl, rfl⟩


/-- strings.IndexByte among the four blanks. -/
def spIx (c : Int) : Int := Lib.indexByte [32, 9, 10, 13] c.toNat.toUInt8
theorem sp_dec : ∀ n : Fin 256, (isSp (n.val : Int) = true ∧ 0 ≤ spIx (n.val : Int)) ∨ (isSp (n.val : Int) = false ∧ spIx (n.val : Int) < 0) := by decide +kernel
theorem sp_ix (c : Int) (h0 : 0 ≤ c) (h1 : c ≤ 255) : (isSp c = true ∧ 0 ≤ spIx c) ∨ (isSp c = false ∧ spIx c < 0) := by
  have := sp_dec ⟨c.toNat, by omega⟩
  simp only at this
  rwa [show ((c.toNat : Nat) : Int) = c from by omega] at this
theorem ixsp_any (c : Int) (w : World) :
    Calls Try.prog 20 #[.string ⟨#[32, 9, 10, 13]⟩, .int .u8 c] w fun e w' => e = .returned (.int .i64 (spIx c)) ∧ w = w' := by
  refine (Try.strings_IndexByte ⟨#[32, 9, 10, 13]⟩ c w).mono ?_
  rintro e w' ⟨rfl, rfl⟩
  exact ⟨rfl, rfl⟩
end Go.Proofs.Qxb6602870a
