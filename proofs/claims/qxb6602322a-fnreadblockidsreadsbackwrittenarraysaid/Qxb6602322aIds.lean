import Derived.Test.Qxb6602322aRu
namespace Go.Proofs.Qxb6602322a
open Go.RowKit

/-! ### Plain -/
def wtail (pad : List Int) : List Nat → List Int → List Int
  | [], z => 93 :: z
  | v :: r, z => 44 :: (pad ++ (dec v ++ (pad ++ wtail pad r z)))

theorem wtail_head (pad : List Int) (vs : List Nat) (z : List Int) : ∃ x r, wtail pad vs z = x :: r ∧ (x = 93 ∧ vs = [] ∧ r = z ∨ x = 44 ∧ ∃ v vs', vs = v :: vs' ∧ r = pad ++ (dec v ++ (pad ++ wtail pad vs' z))) := by
  cases vs with
  | nil => exact ⟨93, z, rfl, .inl ⟨rfl, rfl, rfl⟩⟩
  | cons v vs => exact ⟨44, _, rfl, .inr ⟨rfl, v, vs, rfl, rfl⟩⟩

theorem sp_bd {c : Int} (h : isSp c = true) : 0 ≤ c ∧ c ≤ 255 ∧ ¬ isDg c := by
  unfold isSp at h
  simp only [Bool.or_eq_true, beq_iff_eq] at h
  unfold isDg
  omega

/-- What stands behind a number is no digit. -/
theorem pad_head (pad : List Int) (hp : ∀ c ∈ pad, isSp c = true) (vs : List Nat) (z : List Int) : ∃ x r, pad ++ wtail pad vs z = x :: r ∧ 0 ≤ x ∧ x ≤ 255 ∧ ¬ isDg x := by
  cases pad with
  | nil =>
    obtain ⟨x, r, h, hx⟩ := wtail_head [] vs z
    refine ⟨x, r, by simpa using h, ?_⟩
    unfold isDg
    rcases hx with ⟨h, _⟩ | ⟨h, _⟩ <;> omega
  | cons c pad => exact ⟨c, _, rfl, sp_bd (hp c (by simp))⟩

theorem dec_head (v : Nat) : ∃ x r, dec v = x :: r ∧ isSp x = false ∧ x ≠ 93 := by
  have hl := decF_len 19 v
  cases h : dec v with
  | nil => unfold dec at h; rw [h] at hl; simp at hl
  | cons x r =>
    have := decF_dig 19 v x (by unfold dec at h; rw [h]; simp)
    unfold isDg at this
    refine ⟨x, r, rfl, ?_, by omega⟩
    unfold isSp
    simp; omega

theorem indexByte_mem (l : List UInt8) (c : UInt8) (h : c ∈ l) : ∃ n : Nat, Lib.indexByte l c = (n : Int) ∧ n < l.length := by
  induction l with
  | nil => simp at h
  | cons b l ih =>
    by_cases hb : (b == c) = true
    · exact ⟨0, by simp [Lib.indexByte, hb], by simp⟩
    · have hb' : (b == c) = false := by simpa using hb
      have hm : c ∈ l := by
        simp at h
        rcases h with h | h
        · subst h; simp at hb
        · exact h
      obtain ⟨n, hn, hlt⟩ := ih hm
      refine ⟨n + 1, ?_, by simp; omega⟩
      have h1 : ((n : Int) == -1) = false := beq_eq_false_iff_ne.2 (by omega)
      simp [Lib.indexByte, hb', hn, h1]

theorem wtail_mem (pad : List Int) (vs : List Nat) (z : List Int) : (93 : Int) ∈ wtail pad vs z := by
  induction vs with
  | nil => simp [wtail]
  | cons v vs ih => simp [wtail, ih]

theorem ix_any (b o n c : Nat) (xs : List Int) (m : Int) (w : World) (hx : xs.length = n) (hc : ∀ i, i < n → w.cell? ⟨b, o + i, none⟩ = some (.int .u8 (xs.getD i 0))) (hm : Lib.indexByte (Lib.bytesOf xs) (93 : Int).toNat.toUInt8 = m) :
    Calls Try.prog 34 #[.slice (some ⟨b, o, none⟩) n c, .int .u8 93] w fun e w' => e = .returned (.int .i64 m) ∧ w = w' := by
  refine (Try.bytes_IndexByte b o n c xs 93 w hx hc).mono ?_
  rintro e w' ⟨rfl, rfl⟩
  exact ⟨by rw [hm], rfl⟩

theorem ct_any (b o n c b2 : Nat) (xs : List Int) (m : Nat) (w : World) (hx : xs.length = n) (hc : ∀ i, i < n → w.cell? ⟨b, o + i, none⟩ = some (.int .u8 (xs.getD i 0))) (hc2 : w.cell? ⟨b2, 0, none⟩ = some (.int .u8 44)) (hm : Lib.countByte (Lib.bytesOf xs) (44 : Int).toNat.toUInt8 = m) :
    Calls Try.prog 35 #[.slice (some ⟨b, o, none⟩) n c, .slice (some ⟨b2, 0, none⟩) 1 1] w fun e w' => e = .returned (.int .i64 (m : Int)) ∧ w = w' := by
  refine (Try.bytes_Count_one b o n c b2 0 1 xs 44 w hx hc hc2).mono ?_
  rintro e w' ⟨rfl, rfl⟩
  exact ⟨by rw [hm], rfl⟩

theorem run_make64 (C : Int) (n : Nat) (hC : C = (n : Int)) (hn : n ≤ 1073741825) (w : World) :
    (Instr.makeSlice 34 (.int .i64 0) (.int .i64 C)).run Try.prog w = .ok (.slice (some ⟨w.heap.size, 0, none⟩) 0 n) (w.alloc (.cells (madeCells #[.int .u64 0] n) 37)) := by
  subst hC
  obtain ⟨i, hi, hz, hs, hb⟩ := info_parts info37
  have hr := run_make (P := Try.prog) w 34 37 i (.int .u64 0) Try.underlying34 hi hz .i64 .i64 0 n (by omega) (by omega) (by rw [hb]; omega) (by omega)
  simp only [hs, Int.toNat_natCast, Nat.mul_one] at hr
  exact hr

/-- V is the call's own slice of ids, at or behind block base. -/
def Own64 (w : World) (base : Nat) (V : Value) (L : List Int) : Prop := w.ownsRow base 37 1 V L.length (L.map (Value.int .u64))

theorem own64_made (w : World) (n : Nat) (hn : n ≤ 1073741825) : Own64 (w.alloc (.cells (madeCells #[.int .u64 0] n) 37)) w.heap.size (.slice (some ⟨w.heap.size, 0, none⟩) 0 n) [] := by
  refine ⟨rfl, .inr ⟨w.heap.size, n, madeCells #[.int .u64 0] n, rfl, Nat.le_refl _, ?_, Nat.zero_le _, by unfold maxLen; omega, by rw [size_madeCells]; omega, by simp⟩⟩
  exact heap_alloc_new _ _

theorem own64_shape {w : World} {base : Nat} {V : Value} {L : List Int} (h : Own64 w base V L) (hne : V ≠ .slice none 0 0) : ∃ g cap, V = .slice (some ⟨g, 0, none⟩) L.length cap ∧ Bs .u64 w (some ⟨g, 0, none⟩) L := by
  rcases h.2 with ⟨h, _⟩ | ⟨g, cap, cur, h1, _, h2, h3, h4, h5, h6⟩
  · exact absurd h hne
  · refine ⟨g, cap, h1, .inr ⟨g, 0, rfl, fun i hi => ?_⟩⟩
    have e : cur.toList[i]? = some (.int .u64 (L.getD i 0)) := by
      have e1 : (cur.toList.take (L.length * 1))[i]? = cur.toList[i]? := by rw [List.getElem?_take]; rw [if_pos (by omega)]
      rw [← e1, h6]
      simp [List.getD, hi]
    simp only [Array.getElem?_toList] at e
    simp [World.cell?, h2, e]

theorem wpList_app64 (w : World) {ops : Array Oper} {rest : List Oper} {o : Oper} {a : Act} {Q : Exit → Act → World → Prop}
    (hg : o.guard = none) (s x : Operand) (hop : o.op = Op.call { callee := Callee.builtin Builtin.append, args := #[s, x], argTypes := #[34, 34] })
    (base : Nat) (V : Value) (L : List Int) (z : Int) (ad : Addr) (hs : a.eval s = V) (hx : a.eval x = .slice (some ad) 1 1)
    (hown : Own64 w base V L) (hcell : w.cell? ad = some (.int .u64 z)) (hlen : L.length ≤ 1073741824) (hbase : base ≤ w.heap.size)
    (hK : ∀ V' w', Own64 w' base V' (L ++ [z]) → Below base w w' → V' ≠ .slice none 0 0 → wpList Try.prog ops Q rest (a.put o.dst V') w') :
    wpList Try.prog ops Q (o :: rest) a w := by
  obtain ⟨i, hi, hz, hsz, hby⟩ := info_parts info37
  refine wpList_append_own (P := Try.prog) w hg s x 34 hop base 37 i (.int .u64 0) 1 8 Try.underlying34 hi hz hsz hby rfl (by decide) V L.length _ hs hown ad 1 1 [.int .u64 z] hx rfl ?_ ?_ (by unfold maxLen; omega) (by omega) hbase ?_
  · intro j u hu
    match j, hu with
    | 0, hu => simp at hu; subst hu; simpa [Addr.add] using hcell
  · intro u hu; simp at hu; subst hu; rfl
  · intro V' w' ho hgrow hnil
    refine hK V' w' ?_ ((Below.refl base w).grown hgrow hbase ?_) ?_
    · unfold Own64; rw [List.length_append, List.map_append]; exact ho
    · intro k hk
      rcases hown.2 with ⟨h, _⟩ | ⟨g, cap, cur, h1, h2, _⟩
      · rw [h] at hk; cases hk
      · rw [h1] at hk; cases hk; exact h2
    · intro h; have := (hnil.1 h).2; omega
end Go.Proofs.Qxb6602322a
