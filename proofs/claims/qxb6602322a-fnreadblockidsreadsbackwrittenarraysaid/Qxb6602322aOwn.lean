import Derived.Test.Qxb6602322aBase
namespace Go.Proofs.Qxb6602322a
open Go.RowKit

/-- Block g is the call's own row of bytes, room for cap of them; the first are L. -/
def Own (w : World) (g cap : Nat) (L : List Int) : Prop :=
  w.ownsRow g 5 1 (.slice (some ⟨g, 0, none⟩) L.length cap) L.length (L.map (Value.int .u8))

theorem run_make0 (C : Int) (n : Nat) (hC : C = (n : Int)) (hn : n ≤ 1073741824) (w : World) :
    (Instr.makeSlice 22 (.int .i64 0) (.int .i64 C)).run Try.prog w = .ok (.slice (some ⟨w.heap.size, 0, none⟩) 0 n) (w.alloc (.cells (madeCells #[.int .u8 0] n) 5)) := by
  subst hC
  obtain ⟨i, hi, hz, hs, hb⟩ := info_parts info5
  have hr := run_make (P := Try.prog) w 22 5 i (.int .u8 0) Try.underlying22 hi hz .i64 .i64 0 n (by omega) (by omega) (by rw [hb]; omega) (by omega)
  simp only [hs, Int.toNat_natCast, Nat.mul_one] at hr
  exact hr

theorem own_made (w : World) (n : Nat) (hn : n ≤ 1073741824) : Own (w.alloc (.cells (madeCells #[.int .u8 0] n) 5)) w.heap.size n [] := by
  refine ⟨rfl, .inr ⟨w.heap.size, n, madeCells #[.int .u8 0] n, rfl, Nat.le_refl _, ?_, Nat.zero_le _, by unfold maxLen; omega, by rw [size_madeCells]; omega, by simp⟩⟩
  exact heap_alloc_new _ _

theorem own_lt {w : World} {g cap : Nat} {L : List Int} (h : Own w g cap L) : g < w.heap.size := by
  rcases h.2 with ⟨h, _⟩ | ⟨g', cap', cur, h1, _, h2, _⟩
  · cases h
  · cases h1
    exact lt_of_block h2

theorem own_bs {w : World} {g cap : Nat} {L : List Int} (h : Own w g cap L) : Bs .u8 w (some ⟨g, 0, none⟩) L := by
  refine .inr ⟨g, 0, rfl, fun i hi => ?_⟩
  rcases h.2 with ⟨h, _⟩ | ⟨g', cap', cur, h1, _, h2, h3, h4, h5, h6⟩
  · cases h
  · cases h1
    have e : cur.toList[i]? = some (.int .u8 (L.getD i 0)) := by
      have e1 : (cur.toList.take (L.length * 1))[i]? = cur.toList[i]? := by rw [List.getElem?_take]; rw [if_pos (by omega)]
      rw [← e1, h6]
      simp [List.getD, hi]
    simp only [Array.getElem?_toList] at e
    simp [World.cell?, h2, e]

theorem own_alloc {w : World} {g cap : Nat} {L : List Int} (h : Own w g cap L) (o : Obj) : Own (w.alloc o) g cap L := World.ownsRow.alloc h o

theorem own_below {w w' : World} {g cap : Nat} {L : List Int} (h : Own w g cap L) {B : Nat} (hB : g < B) (hb : Below B w w') : Own w' g cap L := by
  refine ⟨h.1, ?_⟩
  rcases h.2 with ⟨h, _⟩ | ⟨g', cap', cur, h1, h1', h2, h3⟩
  · cases h
  · cases h1
    exact .inr ⟨g, cap, cur, rfl, h1', by rw [hb.block g hB]; exact h2, h3⟩

theorem rowIs_below {w w' : World} {b t n : Nat} {f : Nat → Value} (h : w.rowIs b t n f) {B : Nat} (hB : b < B) (hb : Below B w w') : w'.rowIs b t n f := h.of_block (hb.block b hB)

/-- append within the room. -/
theorem wpList_app (w : World) {ops : Array Oper} {rest : List Oper} {o : Oper} {a : Act} {Q : Exit → Act → World → Prop}
    (hg : o.guard = none) (s x : Operand) (hop : o.op = Op.call { callee := Callee.builtin Builtin.append, args := #[s, x], argTypes := #[22, 22] })
    (g cap n m c : Nat) (L M : List Int) (hn : n = L.length) (hm : m = M.length) (ao : Option Addr) (hs : a.eval s = .slice (some ⟨g, 0, none⟩) n cap) (hx : a.eval x = .slice ao m c)
    (hown : Own w g cap L) (hnone : ao = none → M.length = 0 ∧ c = 0) (hb : Bs .u8 w ao M) (hcap : L.length + M.length ≤ cap)
    (hK : ∀ w', Own w' g cap (L ++ M) → Below g w w' → wpList Try.prog ops Q rest (a.put o.dst (.slice (some ⟨g, 0, none⟩) (n + m) cap)) w') :
    wpList Try.prog ops Q (o :: rest) a w := by
  subst hn hm
  obtain ⟨i, hi, hz, hsz, hby⟩ := info_parts info5
  refine wpList_append_fits_any (P := Try.prog) w hg s x 22 hop g 5 i 1 Try.underlying22 hi hsz g L.length cap _ hs hown ao M.length c (M.map (Value.int .u8)) hx (by simp) hnone ?_ ?_ hcap ?_
  · intro ad had j u hu
    rcases hb with rfl | ⟨b, off, h, hc⟩
    · simp at hu
    · rw [had] at h; cases h
      have hj : j < M.length := by
        by_cases h : j < M.length
        · exact h
        · rw [List.getElem?_eq_none (by simpa using h)] at hu; cases hu
      rw [WideShapes.add_plain, hc j hj, ← hu]
      simp [List.getD, hj]
  · intro u hu
    simp at hu
    obtain ⟨z, _, rfl⟩ := hu
    rfl
  · intro w' ho hgrow
    refine hK w' ?_ ((Below.refl g w).grown hgrow (Nat.le_of_lt (own_lt hown)) (by intro k hk; cases hk; exact Nat.le_refl _))
    unfold Own
    rw [List.length_append, List.map_append]
    exact ho
end Go.Proofs.Qxb6602322a
