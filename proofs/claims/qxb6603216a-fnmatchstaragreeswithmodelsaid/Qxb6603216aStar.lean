import Derived.Test.Qxb6603216aMatch
namespace Go.Proofs.Qxb6603216a
open Go.RowKit

def R4 (o : Int) : Prop := o = 0 ∨ o = 1 ∨ o = 2 ∨ o = 3
theorem loop_range (cr : Bool) (f : List UInt8 → Int) (n : List UInt8) : R4 (loopO cr f n) := by
  unfold R4
  induction n with
  | nil => simp only [loopO]; (repeat' split) <;> simp
  | cons c n ih => simp only [loopO]; (repeat' split) <;> first | simp | exact ih
theorem O_range (ts : List Tk) : ∀ n, R4 (O ts n) := by
  induction ts with
  | nil => intro n; rw [O_nil]; unfold R4; split <;> simp
  | cons t r ih =>
    intro n
    rw [O_cons, outO]
    split
    · unfold starO
      (repeat' split) <;> first | exact loop_range _ _ _ | (unfold R4; simp)
    · cases n with
      | nil => unfold R4 oneO; simp
      | cons c n =>
        simp only [oneO]
        split
        · exact ih n
        · unfold R4; simp

theorem index_mem (l : List UInt8) (c : UInt8) : decide (0 ≤ Lib.indexByte l c) = decide (c ∈ l) := by
  induction l with
  | nil => simp [Lib.indexByte]
  | cons b l ih =>
    by_cases hb : b = c
    · subst hb; simp [Lib.indexByte]
    · have hb' : (b == c) = false := by simpa using hb
      have hm : (c ∈ b :: l) ↔ c ∈ l := by simp; exact fun h => absurd h.symm hb
      simp only [hm]
      rw [← ih]
      simp only [Lib.indexByte, hb']
      by_cases h1 : Lib.indexByte l c = -1
      · simp [h1]
      · have h2 : (Lib.indexByte l c == -1) = false := by simpa using h1
        simp only [h2]
        by_cases h3 : 0 ≤ Lib.indexByte l c
        · simp [h3]; omega
        · have : 0 ≤ Lib.indexByte l c ∨ Lib.indexByte l c = -1 := by
            clear ih h1 h2 h3 hm
            induction l with
            | nil => right; rfl
            | cons x l ih2 =>
              simp only [Lib.indexByte]
              split
              · left; simp
              · split
                · right; rfl
                · rename_i h4
                  left
                  rcases ih2 with h5 | h5
                  · omega
                  · rw [h5] at h4; simp at h4
          omega

def hasSl (l : List UInt8) : Bool := decide ((47 : UInt8) ∈ l)

theorem con_any (s : ByteArray) (w : World) :
    Calls Try.prog 33 #[.string s, .string ⟨#[47]⟩] w fun e w' => e = .returned (.bool (hasSl s.data.toList)) ∧ w = w' := by
  refine (Try.strings_Contains_one s 47 w).mono ?_
  rintro e w' ⟨rfl, rfl⟩
  exact ⟨by rw [index_mem]; rfl, rfl⟩

def strLen : Value → Nat | .string s => s.size | _ => 0

/-- No token behind the star. -/
theorem star_nil (crosses : Bool) (a : Option Addr) (cap : Nat) (s : ByteArray) (w : World) :
    Calls Try.prog 30 #[.bool crosses, .slice a 0 cap, .string s] w fun e w' => e = .returned (.int .i64 (if crosses = true ∨ ¬ (47 : UInt8) ∈ s.data.toList then 0 else 1)) ∧ w = w' := by
  cases crosses with
  | true =>
    rw [if_pos (.inl rfl)]
    go_enter Try.func30, Try.ntmps30
    go_wp2_with fail
    go_ret
    exact ⟨rfl, rfl⟩
  | false =>
    by_cases h : (47 : UInt8) ∈ s.data.toList
    · rw [if_neg (by simp [h])]
      have hd : hasSl s.data.toList = true := decide_eq_true h
      clear h
      go_enter Try.func30, Try.ntmps30
      go_wp2_with (go_at_call 33; refine (con_any _ _).mono ?_; rintro e w' ⟨rfl, rfl⟩)
      go_ret
      exact ⟨rfl, rfl⟩
    · rw [if_pos (.inr h)]
      have hd : hasSl s.data.toList = false := decide_eq_false h
      clear h
      go_enter Try.func30, Try.ntmps30
      go_wp2_with (go_at_call 33; refine (con_any _ _).mono ?_; rintro e w' ⟨rfl, rfl⟩)
      go_ret
      exact ⟨rfl, rfl⟩

theorem loopO_nil {cr : Bool} {f : List UInt8 → Int} {o : Int} (h : f [] = o) : loopO cr f [] = if o = 0 then 0 else if o = 2 then 2 else if o = 3 ∧ cr = false then 3 else 2 := by
  simp only [loopO, h]
theorem loopO_cons {cr : Bool} {f : List UInt8 → Int} {c : UInt8} {n : List UInt8} {o : Int} (h : f (c :: n) = o) : loopO cr f (c :: n) = if o = 0 then 0 else if o = 2 then 2 else if o = 3 ∧ cr = false then 3 else if c = 47 ∧ cr = false then 3 else loopO cr f n := by
  simp only [loopO, h]

set_option maxRecDepth 100000 in
set_option maxHeartbeats 4000000 in
theorem star_step (k : Nat) (hM : MatchC k) : StarC k := by
  intro crosses rest a cap s w hk hlen hcap hs hwf hb
  by_cases h0 : rest = []
  · subst h0
    refine (star_nil crosses a cap s w).mono ?_
    rintro e w' ⟨rfl, rfl⟩
    refine ⟨?_, Below.refl _ _⟩
    unfold starO
    rw [if_pos rfl]
  · have hpos : 0 < rest.length := List.length_pos_iff.2 h0
    have hstar : starO crosses rest (O rest) (tabO rest).2 s.data.toList = if crosses = true ∧ headSlash rest = true ∧ (tabO rest).2 s.data.toList = 0 then 0 else loopO crosses (O rest) s.data.toList := by
      unfold starO; rw [if_neg h0]
    rw [hstar]
    obtain ⟨t, r, hrest⟩ : ∃ t r, rest = t :: r := by
      cases rest with
      | nil => exact absurd rfl h0
      | cons t r => exact ⟨t, r, rfl⟩
    obtain ⟨b, off, ha, hc⟩ := hb.resolve_left h0
    have h7 : ∀ j, j < 7 → w.cell? ⟨b, off + j, none⟩ = some (t.cellAt j) := fun j hj => by
      have := hc 0 hpos j hj
      rw [hrest] at this
      simpa using this
    obtain ⟨k0, k1, _, _, _, _, _⟩ := seven h7
    have HB : Hid (TBs w a rest) := hb
    have HM : Hid (∀ (s' : ByteArray) (W : World), s'.size ≤ 1073741824 → Below w.heap.size w W → Calls Try.prog 27 #[.slice a rest.length cap, .string s'] W fun e w' => e = .returned (.int .i64 (O rest s'.data.toList)) ∧ Below W.heap.size W w') := fun s' W h1 h2 => hM rest a cap s' W hk hlen hcap h1 hwf (hb.below (Nat.le_refl _) h2)
    have HM2 : Hid (∀ (ad : Option Addr) (n c : Nat) (W : World), n = rest.length - 1 → c = cap - 1 → TBs w ad r → Below w.heap.size w W → Calls Try.prog 27 #[.slice ad n c, .string s] W fun e w' => e = .returned (.int .i64 (O r s.data.toList)) ∧ Below W.heap.size W w') := by
      rintro ad n c W rfl rfl h1 h2
      have e : rest.length - 1 = r.length := by rw [hrest]; simp
      have := hM r ad (cap - 1) s W (by omega) (by omega) (by omega) hs (fun t' ht' => hwf t' (by rw [hrest]; simp [ht'])) (h1.below (Nat.le_refl _) h2)
      rw [e]; exact this
    have HT : Hid (TBs w (some ⟨b, off + 7, none⟩) r) := by
      show TBs w (some ⟨b, off + 7, none⟩) r
      have := tbs_drop hc 1
      rw [hrest] at this
      simpa using this
    have HG : Hid ((tabO rest).2 = O r) := by show _ = _; rw [hrest]; rfl
    have HH : Hid (headSlash rest = isSlash t) := by show _ = _; rw [hrest]; rfl
    have HNR : Hid (cap = 1 → r = []) := by
      intro h1
      apply List.eq_nil_of_length_eq_zero
      have : rest.length = r.length + 1 := by rw [hrest]; simp
      omega
    subst ha
    obtain ⟨V, hV⟩ : ∃ V, V = if crosses = true ∧ headSlash rest = true ∧ (tabO rest).2 s.data.toList = 0 then 0 else loopO crosses (O rest) s.data.toList := ⟨_, rfl⟩
    rw [← hV]
    have HVV : Hid (V = if crosses = true ∧ headSlash rest = true ∧ (tabO rest).2 s.data.toList = 0 then 0 else loopO crosses (O rest) s.data.toList) := hV
    clear hrest hc h7 hb hM hwf hV hstar h0
    have hlz : ((rest.length : Int) == 0) = false := beq_eq_false_iff_ne.2 (by omega)
    have hl1 : (0 : Int) < (rest.length : Int) := by omega
    have hl2 : (1 : Int) ≤ (rest.length : Int) := by omega
    cases crosses with
    | false =>
      have HV2 : Hid (V = loopO false (O rest) s.data.toList) := by show _ = _; rw [HVV.out, if_neg (by simp)]
      clear HVV
      go_enter Try.func30, Try.ntmps30
      go_wp2_with fail
      go_loopw [2] (fun sv wr => ∃ s' : ByteArray, sv = .string s' ∧ s'.size ≤ 1073741824 ∧ Hid (loopO false (O rest) s'.data.toList = V) ∧ Below w.heap.size w wr) (fun sv _ => strLen sv)
      case atStart => exact ⟨s, rfl, hs, HV2.out.symm, Below.refl _ _⟩
      case round =>
        obtain ⟨s', rfl, hs', HL, hbel⟩ := hrel
        go_wp2_with fail
        refine (HM.out s' _ hs' hbel).mono ?_
        rintro e w5 ⟨rfl, hb5⟩
        have hbel5 : Below w.heap.size w w5 := hbel.trans (hb5.mono hbel.size)
        have hrg := O_range rest s'.data.toList
        obtain ⟨o, ho⟩ : ∃ o, o = O rest s'.data.toList := ⟨_, rfl⟩
        rw [← ho] at hrg ⊢
        have HO : Hid (O rest s'.data.toList = o) := ho.symm
        clear ho hb5
        unfold R4 at hrg
        by_cases hse : s'.size = 0
        · have hl := HL.out
          have ho2 := HO.out
          rw [str_nil hse] at hl ho2
          rw [loopO_nil ho2] at hl
          have HL2 : Hid ((if o = 0 then (0 : Int) else if o = 2 then 2 else if o = 3 ∧ false = false then 3 else 2) = V) := hl
          have hem : s'.toList.isEmpty = true := by rw [ByteArray.toList_eq, str_nil hse]; rfl
          clear hl ho2 HL HO
          rcases hrg with rfl | rfl | rfl | rfl
          all_goals
            go_wp2_with fail
            go_ret
            exact ⟨ret_int (by have := HL2.out; simpa using this), hbel5⟩
        · have hpos : 0 < s'.size := by omega
          have hcons := str_cons hpos
          have hem : s'.toList.isEmpty = false := by rw [ByteArray.toList_eq, hcons]; rfl
          have hl := HL.out
          have ho2 := HO.out
          obtain ⟨c, hcc⟩ : ∃ c, c = s'[0] := ⟨_, rfl⟩
          rw [hcons, ← hcc] at hl ho2
          rw [loopO_cons ho2] at hl
          have HL2 : Hid ((if o = 0 then (0 : Int) else if o = 2 then 2 else if o = 3 ∧ false = false then 3 else if c = 47 ∧ false = false then 3 else loopO false (O rest) (s'.extract 1 s'.size).data.toList) = V) := hl
          have hcs : s'[0] = c := hcc.symm
          have hposz : (0 : Int) < (s'.size : Int) := by omega
          have h1z : (1 : Int) ≤ (s'.size : Int) := by omega
          have hsx : (s'.extract 1 s'.size).size = s'.size - 1 := by simp
          have HSX : Hid ((s'.extract 1 s'.size).size = s'.size - 1) := hsx
          clear hl ho2 HL HO hcc hcons hsx
          by_cases h47 : c = 47
          · have hb47 : ((c.toNat : Int) == 47) = true := by subst h47; decide
            rcases hrg with rfl | rfl | rfl | rfl
            · go_wp2_with fail
              go_ret
              exact ⟨ret_int (by have := HL2.out; simpa [h47] using this), hbel5⟩
            · go_wp2_with fail
              go_ret
              exact ⟨ret_int (by have := HL2.out; simpa [h47] using this), hbel5⟩
            · go_wp2_with fail
              go_ret
              exact ⟨ret_int (by have := HL2.out; simpa [h47] using this), hbel5⟩
            · go_wp2_with fail
              go_ret
              exact ⟨ret_int (by have := HL2.out; simpa [h47] using this), hbel5⟩
          · have hb47 : ((c.toNat : Int) == 47) = false := byte_ne h47
            rcases hrg with rfl | rfl | rfl | rfl
            · go_wp2_with fail
              go_ret
              exact ⟨ret_int (by have := HL2.out; simpa [h47] using this), hbel5⟩
            · go_wp2_with fail
              go_roundw
              case rel => exact ⟨_, rfl, by have := HSX.out; omega, by have := HL2.out; show _ = V; simpa [h47] using this, hbel5⟩
              case measure => have := HSX.out; simp [strLen]; omega
            · go_wp2_with fail
              go_ret
              exact ⟨ret_int (by have := HL2.out; simpa [h47] using this), hbel5⟩
            · go_wp2_with fail
              go_ret
              exact ⟨ret_int (by have := HL2.out; simpa [h47] using this), hbel5⟩
    | true =>
      by_cases hsl : isSlash t = true
      · have hk0 : t.kind = 0 := slash_kind hsl
        have hb0 : t.b = 47 := by unfold isSlash at hsl; simp at hsl; exact hsl.2
        rw [hk0] at k0
        rw [hb0] at k1
        have HV3 : Hid (V = if O r s.data.toList = 0 then 0 else loopO true (O rest) s.data.toList) := by
          show _ = _
          rw [HVV.out, HG.out, HH.out, hsl]
          simp
        clear HVV hk0 hb0 hsl
        have hrg := O_range r s.data.toList
        obtain ⟨o1, ho1⟩ : ∃ o1, o1 = O r s.data.toList := ⟨_, rfl⟩
        have HO1 : Hid (o1 = O r s.data.toList) := ho1
        rw [← ho1] at hrg HV3
        clear ho1
        have HM3 : Hid (∀ (ad : Option Addr) (n c : Nat) (W : World), n = rest.length - 1 → c = cap - 1 → TBs w ad r → Below w.heap.size w W → Calls Try.prog 27 #[.slice ad n c, .string s] W fun e w' => e = .returned (.int .i64 o1) ∧ Below W.heap.size W w') := by rw [HO1.out]; exact HM2
        have HTA : Hid (∀ ad, cap = 1 → TBs w ad r) := fun ad h => .inl (HNR.out h)
        clear HM2 HG HH
        by_cases hz : o1 = 0
        · have HV0 : Hid (V = 0) := by show _ = _; rw [HV3.out, if_pos hz]
          subst hz
          by_cases hc1 : cap = 1
          · subst hc1
            go_enter Try.func30, Try.ntmps30
            go_wp2_with (go_at_call 27; refine (HM3.out _ _ _ _ (by omega) (by omega) (HTA.out _ rfl) (Below.refl _ _)).mono ?_; rintro e w1 ⟨rfl, hb1⟩)
            go_ret
            exact ⟨ret_int HV0.out.symm, hb1⟩
          · go_enter Try.func30, Try.ntmps30
            go_wp2_with (go_at_call 27; refine (HM3.out _ _ _ _ rfl rfl HT.out (Below.refl _ _)).mono ?_; rintro e w1 ⟨rfl, hb1⟩)
            go_ret
            exact ⟨ret_int HV0.out.symm, hb1⟩
        · have HV2 : Hid (V = loopO true (O rest) s.data.toList) := by show _ = _; rw [HV3.out, if_neg hz]
          have hzb : (o1 == 0) = false := by simpa using hz
          clear HV3 hz hrg
          by_cases hc1 : cap = 1
          · subst hc1
            go_enter Try.func30, Try.ntmps30
            go_wp2_with (go_at_call 27; refine (HM3.out _ _ _ _ (by omega) (by omega) (HTA.out _ rfl) (Below.refl _ _)).mono ?_; rintro e w1 ⟨rfl, hb1⟩)
            go_loopw [2] (fun sv wr => ∃ s' : ByteArray, sv = .string s' ∧ s'.size ≤ 1073741824 ∧ Hid (loopO true (O rest) s'.data.toList = V) ∧ Below w.heap.size w wr) (fun sv _ => strLen sv)
            case atStart => exact ⟨s, rfl, hs, HV2.out.symm, hb1⟩
            case round =>
              obtain ⟨s', rfl, hs', HL, hbel⟩ := hrel
              go_wp2_with fail
              refine (HM.out s' _ hs' hbel).mono ?_
              rintro e w5 ⟨rfl, hb5⟩
              have hbel5 : Below w.heap.size w w5 := hbel.trans (hb5.mono hbel.size)
              have hrg := O_range rest s'.data.toList
              obtain ⟨o, ho⟩ : ∃ o, o = O rest s'.data.toList := ⟨_, rfl⟩
              rw [← ho] at hrg ⊢
              have HO : Hid (O rest s'.data.toList = o) := ho.symm
              clear ho hb5
              unfold R4 at hrg
              by_cases hse : s'.size = 0
              · have hl := HL.out
                have ho2 := HO.out
                rw [str_nil hse] at hl ho2
                rw [loopO_nil ho2] at hl
                have HL2 : Hid ((if o = 0 then (0 : Int) else if o = 2 then 2 else if o = 3 ∧ true = false then 3 else 2) = V) := hl
                have hem : s'.toList.isEmpty = true := by rw [ByteArray.toList_eq, str_nil hse]; rfl
                clear hl ho2 HL HO
                rcases hrg with rfl | rfl | rfl | rfl
                all_goals
                  go_wp2_with fail
                  go_ret
                  exact ⟨ret_int (by have := HL2.out; simpa using this), hbel5⟩
              · have hpos : 0 < s'.size := by omega
                have hcons := str_cons hpos
                have hem : s'.toList.isEmpty = false := by rw [ByteArray.toList_eq, hcons]; rfl
                have hl := HL.out
                have ho2 := HO.out
                obtain ⟨c, hcc⟩ : ∃ c, c = s'[0] := ⟨_, rfl⟩
                rw [hcons, ← hcc] at hl ho2
                rw [loopO_cons ho2] at hl
                have HL2 : Hid ((if o = 0 then (0 : Int) else if o = 2 then 2 else if o = 3 ∧ true = false then 3 else if c = 47 ∧ true = false then 3 else loopO true (O rest) (s'.extract 1 s'.size).data.toList) = V) := hl
                have hcs : s'[0] = c := hcc.symm
                have hposz : (0 : Int) < (s'.size : Int) := by omega
                have h1z : (1 : Int) ≤ (s'.size : Int) := by omega
                have hsx : (s'.extract 1 s'.size).size = s'.size - 1 := by simp
                have HSX : Hid ((s'.extract 1 s'.size).size = s'.size - 1) := hsx
                clear hl ho2 HL HO hcc hcons hsx
                by_cases h47 : c = 47
                · have hb47 : ((c.toNat : Int) == 47) = true := by subst h47; decide
                  rcases hrg with rfl | rfl | rfl | rfl
                  · go_wp2_with fail
                    go_ret
                    exact ⟨ret_int (by have := HL2.out; simpa [h47] using this), hbel5⟩
                  · go_wp2_with fail
                    go_roundw
                    case rel => exact ⟨_, rfl, by have := HSX.out; omega, by have := HL2.out; show _ = V; simpa [h47] using this, hbel5⟩
                    case measure => have := HSX.out; simp [strLen]; omega
                  · go_wp2_with fail
                    go_ret
                    exact ⟨ret_int (by have := HL2.out; simpa [h47] using this), hbel5⟩
                  · go_wp2_with fail
                    go_roundw
                    case rel => exact ⟨_, rfl, by have := HSX.out; omega, by have := HL2.out; show _ = V; simpa [h47] using this, hbel5⟩
                    case measure => have := HSX.out; simp [strLen]; omega
                · have hb47 : ((c.toNat : Int) == 47) = false := byte_ne h47
                  rcases hrg with rfl | rfl | rfl | rfl
                  · go_wp2_with fail
                    go_ret
                    exact ⟨ret_int (by have := HL2.out; simpa [h47] using this), hbel5⟩
                  · go_wp2_with fail
                    go_roundw
                    case rel => exact ⟨_, rfl, by have := HSX.out; omega, by have := HL2.out; show _ = V; simpa [h47] using this, hbel5⟩
                    case measure => have := HSX.out; simp [strLen]; omega
                  · go_wp2_with fail
                    go_ret
                    exact ⟨ret_int (by have := HL2.out; simpa [h47] using this), hbel5⟩
                  · go_wp2_with fail
                    go_roundw
                    case rel => exact ⟨_, rfl, by have := HSX.out; omega, by have := HL2.out; show _ = V; simpa [h47] using this, hbel5⟩
                    case measure => have := HSX.out; simp [strLen]; omega
          · go_enter Try.func30, Try.ntmps30
            go_wp2_with (go_at_call 27; refine (HM3.out _ _ _ _ rfl rfl HT.out (Below.refl _ _)).mono ?_; rintro e w1 ⟨rfl, hb1⟩)
            go_loopw [2] (fun sv wr => ∃ s' : ByteArray, sv = .string s' ∧ s'.size ≤ 1073741824 ∧ Hid (loopO true (O rest) s'.data.toList = V) ∧ Below w.heap.size w wr) (fun sv _ => strLen sv)
            case atStart => exact ⟨s, rfl, hs, HV2.out.symm, hb1⟩
            case round =>
              obtain ⟨s', rfl, hs', HL, hbel⟩ := hrel
              go_wp2_with fail
              refine (HM.out s' _ hs' hbel).mono ?_
              rintro e w5 ⟨rfl, hb5⟩
              have hbel5 : Below w.heap.size w w5 := hbel.trans (hb5.mono hbel.size)
              have hrg := O_range rest s'.data.toList
              obtain ⟨o, ho⟩ : ∃ o, o = O rest s'.data.toList := ⟨_, rfl⟩
              rw [← ho] at hrg ⊢
              have HO : Hid (O rest s'.data.toList = o) := ho.symm
              clear ho hb5
              unfold R4 at hrg
              by_cases hse : s'.size = 0
              · have hl := HL.out
                have ho2 := HO.out
                rw [str_nil hse] at hl ho2
                rw [loopO_nil ho2] at hl
                have HL2 : Hid ((if o = 0 then (0 : Int) else if o = 2 then 2 else if o = 3 ∧ true = false then 3 else 2) = V) := hl
                have hem : s'.toList.isEmpty = true := by rw [ByteArray.toList_eq, str_nil hse]; rfl
                clear hl ho2 HL HO
                rcases hrg with rfl | rfl | rfl | rfl
                all_goals
                  go_wp2_with fail
                  go_ret
                  exact ⟨ret_int (by have := HL2.out; simpa using this), hbel5⟩
              · have hpos : 0 < s'.size := by omega
                have hcons := str_cons hpos
                have hem : s'.toList.isEmpty = false := by rw [ByteArray.toList_eq, hcons]; rfl
                have hl := HL.out
                have ho2 := HO.out
                obtain ⟨c, hcc⟩ : ∃ c, c = s'[0] := ⟨_, rfl⟩
                rw [hcons, ← hcc] at hl ho2
                rw [loopO_cons ho2] at hl
                have HL2 : Hid ((if o = 0 then (0 : Int) else if o = 2 then 2 else if o = 3 ∧ true = false then 3 else if c = 47 ∧ true = false then 3 else loopO true (O rest) (s'.extract 1 s'.size).data.toList) = V) := hl
                have hcs : s'[0] = c := hcc.symm
                have hposz : (0 : Int) < (s'.size : Int) := by omega
                have h1z : (1 : Int) ≤ (s'.size : Int) := by omega
                have hsx : (s'.extract 1 s'.size).size = s'.size - 1 := by simp
                have HSX : Hid ((s'.extract 1 s'.size).size = s'.size - 1) := hsx
                clear hl ho2 HL HO hcc hcons hsx
                by_cases h47 : c = 47
                · have hb47 : ((c.toNat : Int) == 47) = true := by subst h47; decide
                  rcases hrg with rfl | rfl | rfl | rfl
                  · go_wp2_with fail
                    go_ret
                    exact ⟨ret_int (by have := HL2.out; simpa [h47] using this), hbel5⟩
                  · go_wp2_with fail
                    go_roundw
                    case rel => exact ⟨_, rfl, by have := HSX.out; omega, by have := HL2.out; show _ = V; simpa [h47] using this, hbel5⟩
                    case measure => have := HSX.out; simp [strLen]; omega
                  · go_wp2_with fail
                    go_ret
                    exact ⟨ret_int (by have := HL2.out; simpa [h47] using this), hbel5⟩
                  · go_wp2_with fail
                    go_roundw
                    case rel => exact ⟨_, rfl, by have := HSX.out; omega, by have := HL2.out; show _ = V; simpa [h47] using this, hbel5⟩
                    case measure => have := HSX.out; simp [strLen]; omega
                · have hb47 : ((c.toNat : Int) == 47) = false := byte_ne h47
                  rcases hrg with rfl | rfl | rfl | rfl
                  · go_wp2_with fail
                    go_ret
                    exact ⟨ret_int (by have := HL2.out; simpa [h47] using this), hbel5⟩
                  · go_wp2_with fail
                    go_roundw
                    case rel => exact ⟨_, rfl, by have := HSX.out; omega, by have := HL2.out; show _ = V; simpa [h47] using this, hbel5⟩
                    case measure => have := HSX.out; simp [strLen]; omega
                  · go_wp2_with fail
                    go_ret
                    exact ⟨ret_int (by have := HL2.out; simpa [h47] using this), hbel5⟩
                  · go_wp2_with fail
                    go_roundw
                    case rel => exact ⟨_, rfl, by have := HSX.out; omega, by have := HL2.out; show _ = V; simpa [h47] using this, hbel5⟩
                    case measure => have := HSX.out; simp [strLen]; omega
      · have hslf : isSlash t = false := by simpa using hsl
        have HV2 : Hid (V = loopO true (O rest) s.data.toList) := by show _ = _; rw [HVV.out, HH.out, hslf, if_neg (by simp)]
        clear HVV HG HH HM2 hsl
        by_cases hk0 : t.kind = 0
        · have hb0 : (t.b == 47) = false := by unfold isSlash at hslf; rw [hk0] at hslf; simpa using hslf
          rw [hk0] at k0
          clear hslf hk0
          go_enter Try.func30, Try.ntmps30
          go_wp2_with fail
          go_loopw [2] (fun sv wr => ∃ s' : ByteArray, sv = .string s' ∧ s'.size ≤ 1073741824 ∧ Hid (loopO true (O rest) s'.data.toList = V) ∧ Below w.heap.size w wr) (fun sv _ => strLen sv)
          case atStart => exact ⟨s, rfl, hs, HV2.out.symm, (Below.refl _ _)⟩
          case round =>
            obtain ⟨s', rfl, hs', HL, hbel⟩ := hrel
            go_wp2_with fail
            refine (HM.out s' _ hs' hbel).mono ?_
            rintro e w5 ⟨rfl, hb5⟩
            have hbel5 : Below w.heap.size w w5 := hbel.trans (hb5.mono hbel.size)
            have hrg := O_range rest s'.data.toList
            obtain ⟨o, ho⟩ : ∃ o, o = O rest s'.data.toList := ⟨_, rfl⟩
            rw [← ho] at hrg ⊢
            have HO : Hid (O rest s'.data.toList = o) := ho.symm
            clear ho hb5
            unfold R4 at hrg
            by_cases hse : s'.size = 0
            · have hl := HL.out
              have ho2 := HO.out
              rw [str_nil hse] at hl ho2
              rw [loopO_nil ho2] at hl
              have HL2 : Hid ((if o = 0 then (0 : Int) else if o = 2 then 2 else if o = 3 ∧ true = false then 3 else 2) = V) := hl
              have hem : s'.toList.isEmpty = true := by rw [ByteArray.toList_eq, str_nil hse]; rfl
              clear hl ho2 HL HO
              rcases hrg with rfl | rfl | rfl | rfl
              all_goals
                go_wp2_with fail
                go_ret
                exact ⟨ret_int (by have := HL2.out; simpa using this), hbel5⟩
            · have hpos : 0 < s'.size := by omega
              have hcons := str_cons hpos
              have hem : s'.toList.isEmpty = false := by rw [ByteArray.toList_eq, hcons]; rfl
              have hl := HL.out
              have ho2 := HO.out
              obtain ⟨c, hcc⟩ : ∃ c, c = s'[0] := ⟨_, rfl⟩
              rw [hcons, ← hcc] at hl ho2
              rw [loopO_cons ho2] at hl
              have HL2 : Hid ((if o = 0 then (0 : Int) else if o = 2 then 2 else if o = 3 ∧ true = false then 3 else if c = 47 ∧ true = false then 3 else loopO true (O rest) (s'.extract 1 s'.size).data.toList) = V) := hl
              have hcs : s'[0] = c := hcc.symm
              have hposz : (0 : Int) < (s'.size : Int) := by omega
              have h1z : (1 : Int) ≤ (s'.size : Int) := by omega
              have hsx : (s'.extract 1 s'.size).size = s'.size - 1 := by simp
              have HSX : Hid ((s'.extract 1 s'.size).size = s'.size - 1) := hsx
              clear hl ho2 HL HO hcc hcons hsx
              by_cases h47 : c = 47
              · have hb47 : ((c.toNat : Int) == 47) = true := by subst h47; decide
                rcases hrg with rfl | rfl | rfl | rfl
                · go_wp2_with fail
                  go_ret
                  exact ⟨ret_int (by have := HL2.out; simpa [h47] using this), hbel5⟩
                · go_wp2_with fail
                  go_roundw
                  case rel => exact ⟨_, rfl, by have := HSX.out; omega, by have := HL2.out; show _ = V; simpa [h47] using this, hbel5⟩
                  case measure => have := HSX.out; simp [strLen]; omega
                · go_wp2_with fail
                  go_ret
                  exact ⟨ret_int (by have := HL2.out; simpa [h47] using this), hbel5⟩
                · go_wp2_with fail
                  go_roundw
                  case rel => exact ⟨_, rfl, by have := HSX.out; omega, by have := HL2.out; show _ = V; simpa [h47] using this, hbel5⟩
                  case measure => have := HSX.out; simp [strLen]; omega
              · have hb47 : ((c.toNat : Int) == 47) = false := byte_ne h47
                rcases hrg with rfl | rfl | rfl | rfl
                · go_wp2_with fail
                  go_ret
                  exact ⟨ret_int (by have := HL2.out; simpa [h47] using this), hbel5⟩
                · go_wp2_with fail
                  go_roundw
                  case rel => exact ⟨_, rfl, by have := HSX.out; omega, by have := HL2.out; show _ = V; simpa [h47] using this, hbel5⟩
                  case measure => have := HSX.out; simp [strLen]; omega
                · go_wp2_with fail
                  go_ret
                  exact ⟨ret_int (by have := HL2.out; simpa [h47] using this), hbel5⟩
                · go_wp2_with fail
                  go_roundw
                  case rel => exact ⟨_, rfl, by have := HSX.out; omega, by have := HL2.out; show _ = V; simpa [h47] using this, hbel5⟩
                  case measure => have := HSX.out; simp [strLen]; omega
        · have hkb : (t.kind == 0) = false := by simpa using hk0
          clear hslf hk0
          go_enter Try.func30, Try.ntmps30
          go_wp2_with fail
          go_loopw [2] (fun sv wr => ∃ s' : ByteArray, sv = .string s' ∧ s'.size ≤ 1073741824 ∧ Hid (loopO true (O rest) s'.data.toList = V) ∧ Below w.heap.size w wr) (fun sv _ => strLen sv)
          case atStart => exact ⟨s, rfl, hs, HV2.out.symm, (Below.refl _ _)⟩
          case round =>
            obtain ⟨s', rfl, hs', HL, hbel⟩ := hrel
            go_wp2_with fail
            refine (HM.out s' _ hs' hbel).mono ?_
            rintro e w5 ⟨rfl, hb5⟩
            have hbel5 : Below w.heap.size w w5 := hbel.trans (hb5.mono hbel.size)
            have hrg := O_range rest s'.data.toList
            obtain ⟨o, ho⟩ : ∃ o, o = O rest s'.data.toList := ⟨_, rfl⟩
            rw [← ho] at hrg ⊢
            have HO : Hid (O rest s'.data.toList = o) := ho.symm
            clear ho hb5
            unfold R4 at hrg
            by_cases hse : s'.size = 0
            · have hl := HL.out
              have ho2 := HO.out
              rw [str_nil hse] at hl ho2
              rw [loopO_nil ho2] at hl
              have HL2 : Hid ((if o = 0 then (0 : Int) else if o = 2 then 2 else if o = 3 ∧ true = false then 3 else 2) = V) := hl
              have hem : s'.toList.isEmpty = true := by rw [ByteArray.toList_eq, str_nil hse]; rfl
              clear hl ho2 HL HO
              rcases hrg with rfl | rfl | rfl | rfl
              all_goals
                go_wp2_with fail
                go_ret
                exact ⟨ret_int (by have := HL2.out; simpa using this), hbel5⟩
            · have hpos : 0 < s'.size := by omega
              have hcons := str_cons hpos
              have hem : s'.toList.isEmpty = false := by rw [ByteArray.toList_eq, hcons]; rfl
              have hl := HL.out
              have ho2 := HO.out
              obtain ⟨c, hcc⟩ : ∃ c, c = s'[0] := ⟨_, rfl⟩
              rw [hcons, ← hcc] at hl ho2
              rw [loopO_cons ho2] at hl
              have HL2 : Hid ((if o = 0 then (0 : Int) else if o = 2 then 2 else if o = 3 ∧ true = false then 3 else if c = 47 ∧ true = false then 3 else loopO true (O rest) (s'.extract 1 s'.size).data.toList) = V) := hl
              have hcs : s'[0] = c := hcc.symm
              have hposz : (0 : Int) < (s'.size : Int) := by omega
              have h1z : (1 : Int) ≤ (s'.size : Int) := by omega
              have hsx : (s'.extract 1 s'.size).size = s'.size - 1 := by simp
              have HSX : Hid ((s'.extract 1 s'.size).size = s'.size - 1) := hsx
              clear hl ho2 HL HO hcc hcons hsx
              by_cases h47 : c = 47
              · have hb47 : ((c.toNat : Int) == 47) = true := by subst h47; decide
                rcases hrg with rfl | rfl | rfl | rfl
                · go_wp2_with fail
                  go_ret
                  exact ⟨ret_int (by have := HL2.out; simpa [h47] using this), hbel5⟩
                · go_wp2_with fail
                  go_roundw
                  case rel => exact ⟨_, rfl, by have := HSX.out; omega, by have := HL2.out; show _ = V; simpa [h47] using this, hbel5⟩
                  case measure => have := HSX.out; simp [strLen]; omega
                · go_wp2_with fail
                  go_ret
                  exact ⟨ret_int (by have := HL2.out; simpa [h47] using this), hbel5⟩
                · go_wp2_with fail
                  go_roundw
                  case rel => exact ⟨_, rfl, by have := HSX.out; omega, by have := HL2.out; show _ = V; simpa [h47] using this, hbel5⟩
                  case measure => have := HSX.out; simp [strLen]; omega
              · have hb47 : ((c.toNat : Int) == 47) = false := byte_ne h47
                rcases hrg with rfl | rfl | rfl | rfl
                · go_wp2_with fail
                  go_ret
                  exact ⟨ret_int (by have := HL2.out; simpa [h47] using this), hbel5⟩
                · go_wp2_with fail
                  go_roundw
                  case rel => exact ⟨_, rfl, by have := HSX.out; omega, by have := HL2.out; show _ = V; simpa [h47] using this, hbel5⟩
                  case measure => have := HSX.out; simp [strLen]; omega
                · go_wp2_with fail
                  go_ret
                  exact ⟨ret_int (by have := HL2.out; simpa [h47] using this), hbel5⟩
                · go_wp2_with fail
                  go_roundw
                  case rel => exact ⟨_, rfl, by have := HSX.out; omega, by have := HL2.out; show _ = V; simpa [h47] using this, hbel5⟩
                  case measure => have := HSX.out; simp [strLen]; omega


theorem starC_all (k : Nat) : StarC k := by
  induction k using Nat.strongRecOn with
  | _ k ih => exact star_step k (match_step k ih)
theorem matchC_all (k : Nat) : MatchC k := match_step k (fun k' _ => starC_all k')

theorem zzm_any (ts : List Tk) (a : Option Addr) (cap : Nat) (s : ByteArray) (w : World) (hlen : ts.length ≤ 1048576) (hcap : ts.length ≤ cap) (hs : s.size ≤ 1073741824) (hwf : ∀ t ∈ ts, t.wf) (hb : TBs w a ts) :
    Calls Try.prog 11 #[.slice a ts.length cap, .string s] w fun e w' => e = .returned (.int .i64 (O ts s.data.toList)) ∧ Below w.heap.size w w' := by
  have HC : Hid (Calls Try.prog 27 #[.slice a ts.length cap, .string s] w fun e w' => e = .returned (.int .i64 (O ts s.data.toList)) ∧ Below w.heap.size w w') := matchC_all ts.length ts a cap s w (Nat.le_refl _) hlen hcap hs hwf hb
  clear hwf hb
  go_enter Try.func11, Try.ntmps11
  go_wp2_with (go_at_call 27; refine HC.out.mono ?_; rintro e w1 ⟨rfl, hb1⟩)
  go_ret
  exact ⟨rfl, hb1⟩

theorem zzs_any (crosses : Bool) (ts : List Tk) (a : Option Addr) (cap : Nat) (s : ByteArray) (w : World) (hlen : ts.length ≤ 1048576) (hcap : ts.length ≤ cap) (hs : s.size ≤ 1073741824) (hwf : ∀ t ∈ ts, t.wf) (hb : TBs w a ts) :
    Calls Try.prog 20 #[.bool crosses, .slice a ts.length cap, .string s] w fun e w' => e = .returned (.int .i64 (starO crosses ts (O ts) (tabO ts).2 s.data.toList)) ∧ Below w.heap.size w w' := by
  have HC : Hid (Calls Try.prog 30 #[.bool crosses, .slice a ts.length cap, .string s] w fun e w' => e = .returned (.int .i64 (starO crosses ts (O ts) (tabO ts).2 s.data.toList)) ∧ Below w.heap.size w w') := starC_all ts.length crosses ts a cap s w (Nat.le_refl _) hlen hcap hs hwf hb
  clear hwf hb
  go_enter Try.func20, Try.ntmps20
  go_wp2_with (go_at_call 30; refine HC.out.mono ?_; rintro e w1 ⟨rfl, hb1⟩)
  go_ret
  exact ⟨rfl, hb1⟩
end Go.Proofs.Qxb6603216a
