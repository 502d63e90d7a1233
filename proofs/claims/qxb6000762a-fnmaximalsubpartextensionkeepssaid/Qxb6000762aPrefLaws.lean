/-
  Plain laws: prefixOK against maximalSubpart. No Go in sight.
-/
import Derived.Test.Qxb6000762aPrefPlain
namespace Go.Proofs.Qxb6000762a.Msub

theorem cont2 (p : ByteArray) : Cont p 2 ↔ 128 ≤ bt p 1 ∧ bt p 1 ≤ 191 := by
  constructor
  · intro h; exact h 1 (by omega) (by omega)
  · intro h j a b
    obtain rfl : j = 1 := by omega
    exact h

theorem cont3 (p : ByteArray) : Cont p 3 ↔ (128 ≤ bt p 1 ∧ bt p 1 ≤ 191) ∧ (128 ≤ bt p 2 ∧ bt p 2 ≤ 191) := by
  constructor
  · intro h; exact ⟨h 1 (by omega) (by omega), h 2 (by omega) (by omega)⟩
  · intro h j a b
    have hj : j = 1 ∨ j = 2 := by omega
    rcases hj with rfl | rfl
    · exact h.1
    · exact h.2

theorem pok3_two (p : ByteArray) (hz : p.size = 2) (hs : sl (bt p 0) = 3) : pokB 3 2048 65535 (bt p 0 % 16) p = sec (bt p 0) (bt p 1) := by
  have ha := sl_three hs
  rw [Bool.eq_iff_iff, pokB_iff, sec_iff]
  unfold POKn Fit
  rw [hz, cont2]
  simp only [pv, Nat.reduceSub, Nat.reduceMul, Nat.zero_add, Int.reducePow, Int.reduceSub]
  omega

theorem pok4_two (p : ByteArray) (hz : p.size = 2) (hs : sl (bt p 0) = 4) : pokB 4 65536 1114111 (bt p 0 % 8) p = sec (bt p 0) (bt p 1) := by
  have ha := sl_four hs
  rw [Bool.eq_iff_iff, pokB_iff, sec_iff]
  unfold POKn Fit
  rw [hz, cont2]
  simp only [pv, Nat.reduceSub, Nat.reduceMul, Nat.zero_add, Int.reducePow, Int.reduceSub]
  omega

theorem pok4_three (p : ByteArray) (hz : p.size = 3) (hs : sl (bt p 0) = 4) :
    pokB 4 65536 1114111 (bt p 0 % 8) p = true ↔ (sec (bt p 0) (bt p 1) = true ∧ 128 ≤ bt p 2 ∧ bt p 2 ≤ 191) := by
  have ha := sl_four hs
  rw [pokB_iff, sec_iff]
  unfold POKn Fit
  rw [hz, cont3]
  simp only [pv, Nat.reduceSub, Nat.reduceMul, Nat.zero_add, Nat.reduceAdd, Int.reducePow, Int.reduceSub]
  omega

/-- what prefixOK answers at a string that is not empty -/
def pokS (s : ByteArray) : Bool :=
  if sl (bt s 0) = 0 then false else if sl (bt s 0) < s.size then false else
  if sl (bt s 0) = 1 then true else if sl (bt s 0) = 2 then pokB 2 128 2047 (bt s 0 % 32) s else
  if sl (bt s 0) = 3 then pokB 3 2048 65535 (bt s 0 % 16) s else pokB 4 65536 1114111 (bt s 0 % 8) s

theorem pokS_0 {s : ByteArray} (h : sl (bt s 0) = 0) : pokS s = false := by unfold pokS; rw [if_pos h]
theorem pokS_long {s : ByteArray} (h : sl (bt s 0) < s.size) : pokS s = false := by
  unfold pokS
  split
  · rfl
  · rfl
theorem pokS_1 {s : ByteArray} (h : sl (bt s 0) = 1) (hz : s.size ≤ 1) : pokS s = true := by
  unfold pokS; rw [if_neg (by omega), if_neg (by omega), if_pos h]
theorem pokS_2 {s : ByteArray} (h : sl (bt s 0) = 2) (hz : s.size ≤ 2) : pokS s = pokB 2 128 2047 (bt s 0 % 32) s := by
  unfold pokS; rw [if_neg (by omega), if_neg (by omega), if_neg (by omega), if_pos h]
theorem pokS_3 {s : ByteArray} (h : sl (bt s 0) = 3) (hz : s.size ≤ 3) : pokS s = pokB 3 2048 65535 (bt s 0 % 16) s := by
  unfold pokS; rw [if_neg (by omega), if_neg (by omega), if_neg (by omega), if_neg (by omega), if_pos h]
theorem pokS_4 {s : ByteArray} (h : sl (bt s 0) = 4) (hz : s.size ≤ 4) : pokS s = pokB 4 65536 1114111 (bt s 0 % 8) s := by
  unfold pokS; rw [if_neg (by omega), if_neg (by omega), if_neg (by omega), if_neg (by omega), if_neg (by omega)]

/-- what beginsWellFormed answers at a string that is not empty -/
def wfS (s : ByteArray) : Bool :=
  if sl (bt s 0) = 0 ∨ (s.size : Int) < sl (bt s 0) then false else pokS (s.extract 0 (sl (bt s 0)).toNat)

theorem wfS_no {s : ByteArray} (h : sl (bt s 0) = 0 ∨ (s.size : Int) < sl (bt s 0)) : wfS s = false := by unfold wfS; rw [if_pos h]
theorem wfS_yes {s : ByteArray} (h : ¬ (sl (bt s 0) = 0 ∨ (s.size : Int) < sl (bt s 0))) : wfS s = pokS (s.extract 0 (sl (bt s 0)).toNat) := by
  unfold wfS; rw [if_neg h]

theorem sec_range {a b : Int} (h : sec a b = true) : 224 ≤ a ∧ a ≤ 244 := by
  rw [sec_iff] at h; omega

/-- the two tests of the law, for an s that begins no well-formed sequence -/
theorem matches_1 (s : ByteArray) (h1 : 1 ≤ s.size) (hr : 1 < msS s) : pokS (s.extract 0 (msS s).toNat) = true := by
  have hb := msS_bd s h1
  unfold msS ms at hr hb ⊢
  split at hr
  case isFalse c => omega
  case isTrue c =>
    rw [if_pos c] at hb ⊢
    have hse := sec_range c.2
    split at hr
    case isTrue d =>
      rw [if_pos d] at hb ⊢
      show pokS (s.extract 0 3) = true
      have hz := size_pre s 3 (by omega)
      have e0 := bt_pre s 3 0 (by omega) (by omega)
      have e1 := bt_pre s 3 1 (by omega) (by omega)
      have e2 := bt_pre s 3 2 (by omega) (by omega)
      have hs : sl (bt (s.extract 0 3) 0) = 4 := by rw [e0]; unfold sl; repeat' split <;> omega
      rw [pokS_4 hs (by omega), pok4_three _ hz hs, e0, e1, e2]
      exact ⟨c.2, d.2.2⟩
    case isFalse d =>
      rw [if_neg d] at hb ⊢
      show pokS (s.extract 0 2) = true
      have hz := size_pre s 2 (by omega)
      have e0 := bt_pre s 2 0 (by omega) (by omega)
      have e1 := bt_pre s 2 1 (by omega) (by omega)
      by_cases h240 : 240 ≤ bt s 0
      · have hs : sl (bt (s.extract 0 2) 0) = 4 := by rw [e0]; unfold sl; repeat' split <;> omega
        rw [pokS_4 hs (by omega), pok4_two _ hz hs, e0, e1]
        exact c.2
      · have hs : sl (bt (s.extract 0 2) 0) = 3 := by rw [e0]; unfold sl; repeat' split <;> omega
        rw [pokS_3 hs (by omega), pok3_two _ hz hs, e0, e1]
        exact c.2

theorem matches_2 (s : ByteArray) (h1 : 1 ≤ s.size) (hw : wfS s = false) (hr : msS s < s.size) : pokS (s.extract 0 (msS s + 1).toNat) = false := by
  have hb := msS_bd s h1
  have hk := bt_bd s 0
  rcases sl_cases (bt s 0) with h | h | h | h | h
  · -- no lead at all
    have e0 := bt_pre s (msS s + 1).toNat 0 (by omega) (by omega)
    exact pokS_0 (by rw [e0]; exact h)
  · -- one byte: always well formed
    rw [wfS_yes (by omega), h] at hw
    have hz := size_pre s 1 (by omega)
    have e0 := bt_pre s 1 0 (by omega) (by omega)
    have := pokS_1 (s := s.extract 0 1) (by rw [e0]; exact h) (by omega)
    have hw' : pokS (s.extract 0 1) = false := hw
    rw [hw'] at this
    simp at this
  · -- two bytes
    have ha := sl_two h
    have hm : msS s = 1 := by
      unfold msS
      refine (ms_one ?_).symm
      rintro ⟨_, c⟩
      have := sec_range c
      omega
    rw [hm]
    show pokS (s.extract 0 2) = false
    rw [wfS_yes (by omega), h] at hw
    exact hw
  · -- three bytes
    have ha := sl_three h
    by_cases c : 2 ≤ (s.size : Int) ∧ sec (bt s 0) (bt s 1) = true
    · have hm : msS s = 2 := (ms_two c.1 c.2 (by omega)).symm
      rw [hm]
      show pokS (s.extract 0 3) = false
      rw [wfS_yes (by omega), h] at hw
      exact hw
    · have hm : msS s = 1 := (ms_one c).symm
      rw [hm]
      show pokS (s.extract 0 2) = false
      have hz := size_pre s 2 (by omega)
      have e0 := bt_pre s 2 0 (by omega) (by omega)
      have e1 := bt_pre s 2 1 (by omega) (by omega)
      have hs : sl (bt (s.extract 0 2) 0) = 3 := by rw [e0]; exact h
      rw [pokS_3 hs (by omega), pok3_two _ hz hs, e0, e1]
      exact Bool.eq_false_iff.2 fun e => c ⟨by omega, e⟩
  · -- four bytes
    have ha := sl_four h
    by_cases c : 2 ≤ (s.size : Int) ∧ sec (bt s 0) (bt s 1) = true
    · by_cases d : 240 ≤ bt s 0 ∧ 2 < (s.size : Int) ∧ 128 ≤ bt s 2 ∧ bt s 2 ≤ 191
      · have hm : msS s = 3 := (ms_three c.1 c.2 d).symm
        rw [hm]
        show pokS (s.extract 0 4) = false
        rw [wfS_yes (by omega), h] at hw
        exact hw
      · have hm : msS s = 2 := (ms_two c.1 c.2 d).symm
        rw [hm]
        show pokS (s.extract 0 3) = false
        have hz := size_pre s 3 (by omega)
        have e0 := bt_pre s 3 0 (by omega) (by omega)
        have e1 := bt_pre s 3 1 (by omega) (by omega)
        have e2 := bt_pre s 3 2 (by omega) (by omega)
        have hs : sl (bt (s.extract 0 3) 0) = 4 := by rw [e0]; exact h
        refine Bool.eq_false_iff.2 fun e => ?_
        rw [pokS_4 hs (by omega), pok4_three _ hz hs, e0, e1, e2] at e
        omega
    · have hm : msS s = 1 := (ms_one c).symm
      rw [hm]
      show pokS (s.extract 0 2) = false
      have hz := size_pre s 2 (by omega)
      have e0 := bt_pre s 2 0 (by omega) (by omega)
      have e1 := bt_pre s 2 1 (by omega) (by omega)
      have hs : sl (bt (s.extract 0 2) 0) = 4 := by rw [e0]; exact h
      rw [pokS_4 hs (by omega), pok4_two _ hz hs, e0, e1]
      exact Bool.eq_false_iff.2 fun e => c ⟨by omega, e⟩

/-! ### the maximal subpart with bytes behind it -/
theorem bt_app (x y : ByteArray) (i : Nat) (h : i < x.size) : bt (x ++ y) i = bt x i := by
  rw [← bt_get _ i (by rw [ByteArray.size_append]; omega), ← bt_get x i h, ByteArray.getElem_append_left h]

theorem keeps_plain (s u : ByteArray) (h1 : 1 ≤ s.size) (hz : msS s ≤ u.size) (ev : ∀ i : Nat, (i : Int) < msS s → bt u i = bt s i) : msS s ≤ msS u := by
  have hb := msS_bd s h1
  have hge := msS_bd u (by omega)
  by_cases h2 : msS s = 1
  · omega
  · have e0 := ev 0 (by omega)
    have e1 := ev 1 (by omega)
    have c : 2 ≤ (s.size : Int) ∧ sec (bt s 0) (bt s 1) = true := Decidable.byContradiction fun c => h2 (ms_one c).symm
    have hc : sec (bt u 0) (bt u 1) = true := by rw [e0, e1]; exact c.2
    by_cases d : 240 ≤ bt s 0 ∧ 2 < (s.size : Int) ∧ 128 ≤ bt s 2 ∧ bt s 2 ≤ 191
    · have hm : msS s = 3 := (ms_three c.1 c.2 d).symm
      have e2 := ev 2 (by omega)
      have h3 : msS u = 3 := (ms_three (by omega) hc (by rw [e0, e2]; exact ⟨d.1, by omega, d.2.2⟩)).symm
      omega
    · have hm : msS s = 2 := (ms_two c.1 c.2 d).symm
      by_cases d' : 240 ≤ bt u 0 ∧ 2 < (u.size : Int) ∧ 128 ≤ bt u 2 ∧ bt u 2 ≤ 191
      · have h3 : msS u = 3 := (ms_three (by omega) hc d').symm
        omega
      · have h3 : msS u = 2 := (ms_two (by omega) hc d').symm
        omega

theorem keeps (s t : ByteArray) (h1 : 1 ≤ s.size) : msS s ≤ msS (s.extract 0 (msS s).toNat ++ t) := by
  have hb := msS_bd s h1
  have hz := size_pre s (msS s).toNat (by omega)
  have hz2 : (s.extract 0 (msS s).toNat ++ t).size = (msS s).toNat + t.size := by rw [ByteArray.size_append, hz]
  refine keeps_plain s _ h1 (by omega) fun i hi => ?_
  rw [bt_app _ _ i (by omega), bt_pre s _ i (by omega) (by omega)]
end Go.Proofs.Qxb6000762a.Msub
