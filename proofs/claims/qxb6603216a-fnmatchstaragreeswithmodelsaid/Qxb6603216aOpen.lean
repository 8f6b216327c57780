import Derived.Test.Qxb6603216aMatch
import Derived.ProofKit
import Derived.OpenShut
import Derived.Deep.Slices
import Derived.Laws.IdiomArrays
import Derived.Lib.SmallJoins
namespace Go.Proofs.Qxb6603216a
open Go.RowKit Go.ChangeShapes Go.WideShapes

theorem Try.cells3 : Try.prog.cellsOf 3 = 1 := by kernel_rfl
theorem Try.cells5 : Try.prog.cellsOf 5 = 1 := by kernel_rfl
theorem Try.cells33 : Try.prog.cellsOf 33 = 4 := by kernel_rfl
theorem Try.cells4 : Try.prog.cellsOf 4 = 1 := by kernel_rfl
theorem Try.cells32 : Try.prog.cellsOf 32 = 1 := by kernel_rfl
theorem Try.cells35 : Try.prog.cellsOf 35 = 7 := by kernel_rfl

theorem list7 {cs : List Value} (h : cs.length = 7) : ∃ c0 c1 c2 c3 c4 c5 c6, cs = [c0, c1, c2, c3, c4, c5, c6] := by
  match cs, h with
  | [c0, c1, c2, c3, c4, c5, c6], _ => exact ⟨c0, c1, c2, c3, c4, c5, c6, rfl⟩

section
variable {H : Type} {enc : TypeId × Value → H} {w : World} {base : Nat} {spare : Nat → Bool} {held : Bool}

theorem open_tok {fuel : Nat} {cs : List Value} {x : DataW H × List MemPlace} (h : DataW.trod enc Try.prog w base spare held fuel 35 cs = some x) :
    ∃ t : Tk, cs = t.arr.toList ∧ t.wf := by
  obtain ⟨y0, y1, y2, y3, n, _, hl, h0, h1, h2, h3⟩ := Joins.trod_struct4 Try.underlying35 h
  rw [Try.cells35] at hl
  obtain ⟨c0, c1, c2, c3, c4, c5, c6, rfl⟩ := list7 hl
  dsimp only at h0 h1 h2 h3
  rw [Try.cells3] at h0
  rw [Try.cells5] at h1
  rw [Try.cells33] at h2
  rw [Try.cells4] at h3
  simp only [List.drop_succ_cons, List.drop_zero, List.take_succ_cons, List.take_zero] at h0 h1 h2 h3
  obtain ⟨k, hk, _, _⟩ := DataW.trod_int Try.underlying3 h0
  obtain ⟨b, hb, _, _⟩ := DataW.trod_int Try.underlying5 h1
  obtain ⟨g, hg, _⟩ := DataW.trod_bool Try.underlying4 h3
  obtain ⟨z0, z1, z2, z3, m, _, e0, e1, e2, e3⟩ := trod_array4 Try.underlying33 Try.cells32 h2
  obtain ⟨s0, hs0, _, w0⟩ := DataW.trod_int Try.underlying32 e0
  obtain ⟨s1, hs1, _, w1⟩ := DataW.trod_int Try.underlying32 e1
  obtain ⟨s2, hs2, _, w2⟩ := DataW.trod_int Try.underlying32 e2
  obtain ⟨s3, hs3, _, w3⟩ := DataW.trod_int Try.underlying32 e3
  simp at hk hb hg hs0 hs1 hs2 hs3
  subst hk hb hg hs0 hs1 hs2 hs3
  exact ⟨⟨k, b, s0, s1, s2, s3, g⟩, rfl, bounds_u64 w0, bounds_u64 w1, bounds_u64 w2, bounds_u64 w3⟩

theorem open_toks {a : Option Addr} {len cap : Nat} {fuel : Nat} {x : DataW H × List MemPlace} (h : DataW.trod enc Try.prog w base spare held fuel 22 [.slice a len cap] = some x) :
    ∃ ts : List Tk, ts.length = len ∧ len ≤ maxLen ∧ (∀ t ∈ ts, t.wf) ∧ TBs w a ts := by
  rcases Deep.open_slice Try.underlying22 h with ⟨hcs, _⟩ | ⟨ad, l, c, m, n, D, Pl, hcs, _, hl, hm, hmm, _, hx⟩
  · simp at hcs
    obtain ⟨rfl, rfl, rfl⟩ := hcs
    exact ⟨[], rfl, Nat.zero_le _, by simp, .inl rfl⟩
  · simp at hcs
    obtain ⟨rfl, rfl, rfl⟩ := hcs
    have hlm : len ≤ m := by rw [hmm]; split <;> omega
    have : Inhabited Tk := ⟨Tk.zero⟩
    obtain ⟨T, hT⟩ := Deep.choose_lt (α := Tk) (n := len) (p := fun i t => t.wf ∧ w.cells? base (ad.add (i * 7)) 7 = some t.arr.toList) (fun i hi => by
      obtain ⟨cs', h1, h2⟩ := hx i (by omega)
      obtain ⟨t, rfl, ht⟩ := open_tok h2
      rw [Try.cells35] at h1
      exact ⟨t, ht, h1⟩)
    refine ⟨(List.range len).map T, by simp, by omega, ?_, ?_⟩
    · intro t ht
      obtain ⟨i, hi, rfl⟩ := List.mem_map.1 ht
      exact (hT i (by simpa using hi)).1
    · by_cases h0 : len = 0
      · subst h0; exact .inl rfl
      · obtain ⟨b, off, spot⟩ := ad
        have hs : spot = none := by
          obtain ⟨_, _, h2⟩ := World.cells?_some (hT 0 (by omega)).2
          have h3 : w.cell? ((Addr.add ⟨b, off, spot⟩ (0 * 7)).add 0) = some (.int .i64 (T 0).kind) := h2 0 (by omega)
          simpa [Addr.add] using World.cell?_spot h3
        subst hs
        have hc : ∀ i, i < len → ∀ j, j < 7 → w.cell? ⟨b, off + i * 7 + j, none⟩ = some ((T i).cellAt j) := by
          intro i hi j hj
          obtain ⟨_, h1, h2⟩ := World.cells?_some (hT i hi).2
          have h3 := h2 j hj
          rw [WideShapes.add_plain, WideShapes.add_plain] at h3
          rw [h3]
          rcases (show j = 0 ∨ j = 1 ∨ j = 2 ∨ j = 3 ∨ j = 4 ∨ j = 5 ∨ j = 6 from by omega) with rfl | rfl | rfl | rfl | rfl | rfl | rfl <;> rfl
        refine .inr ⟨b, off, rfl, fun i hi j hj => ?_⟩
        simp at hi
        rw [hc i hi j hj]
        simp [List.getD, hi]
end
end Go.Proofs.Qxb6603216a
