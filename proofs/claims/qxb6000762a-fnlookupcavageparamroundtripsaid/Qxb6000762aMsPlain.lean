/-
  Plain laws on what maximalSubpart answers: bytes as numbers, no Go in sight.
-/
import Derived.ProofKit
namespace Go.Proofs.Qxb6000762a.Msub

/-! ### Plain: bytes of a string as numbers; what maximalSubpart answers -/

/-- byte i of s as a number (0 behind its end) -/
def bt (s : ByteArray) (i : Nat) : Int := ((s.data.toList.getD i 0).toNat : Int)

theorem bt_get (s : ByteArray) (i : Nat) (h : i < s.size) : ((s[i]).toNat : Int) = bt s i := by
  unfold bt
  have h' : i < s.data.toList.length := by simpa using h
  rw [List.getD_eq_getElem?_getD, List.getElem?_eq_getElem h']
  rfl

theorem bt_bd (s : ByteArray) (i : Nat) : 0 ≤ bt s i ∧ bt s i ≤ 255 := by
  unfold bt
  have := (s.data.toList.getD i 0).toNat_lt
  omega

/-- may b follow the lead a of a sequence of three or four bytes? -/
def sec (a b : Int) : Bool :=
  decide ((a = 224 ∧ 160 ≤ b ∧ b ≤ 191) ∨ (a = 237 ∧ 128 ≤ b ∧ b ≤ 159)
    ∨ (225 ≤ a ∧ a ≤ 239 ∧ a ≠ 237 ∧ 128 ≤ b ∧ b ≤ 191) ∨ (a = 240 ∧ 144 ≤ b ∧ b ≤ 191)
    ∨ (a = 244 ∧ 128 ≤ b ∧ b ≤ 143) ∨ (241 ≤ a ∧ a ≤ 243 ∧ 128 ≤ b ∧ b ≤ 191))

theorem sec_iff (a b : Int) : sec a b = true ↔ ((a = 224 ∧ 160 ≤ b ∧ b ≤ 191) ∨ (a = 237 ∧ 128 ≤ b ∧ b ≤ 159)
    ∨ (225 ≤ a ∧ a ≤ 239 ∧ a ≠ 237 ∧ 128 ≤ b ∧ b ≤ 191) ∨ (a = 240 ∧ 144 ≤ b ∧ b ≤ 191)
    ∨ (a = 244 ∧ 128 ≤ b ∧ b ≤ 143) ∨ (241 ≤ a ∧ a ≤ 243 ∧ 128 ≤ b ∧ b ≤ 191)) := by
  unfold sec; exact decide_eq_true_iff

/-- what maximalSubpart answers, of the length and the first three bytes -/
def ms (n a b c : Int) : Int :=
  if 2 ≤ n ∧ sec a b = true then (if 240 ≤ a ∧ 2 < n ∧ 128 ≤ c ∧ c ≤ 191 then 3 else 2) else 1

theorem ms_one {n a b c : Int} (h : ¬ (2 ≤ n ∧ sec a b = true)) : 1 = ms n a b c := by
  unfold ms; rw [if_neg h]
theorem ms_two {n a b c : Int} (h : 2 ≤ n) (h2 : sec a b = true) (h3 : ¬ (240 ≤ a ∧ 2 < n ∧ 128 ≤ c ∧ c ≤ 191)) : 2 = ms n a b c := by
  unfold ms; rw [if_pos ⟨h, h2⟩, if_neg h3]
theorem ms_three {n a b c : Int} (h : 2 ≤ n) (h2 : sec a b = true) (h3 : (240 ≤ a ∧ 2 < n ∧ 128 ≤ c ∧ c ≤ 191)) : 3 = ms n a b c := by
  unfold ms; rw [if_pos ⟨h, h2⟩, if_pos h3]

/-- the answer of maximalSubpart at s -/
def msS (s : ByteArray) : Int := ms s.size (bt s 0) (bt s 1) (bt s 2)

/-! ### Plain laws on 'msS' -/
theorem msS_bd (s : ByteArray) (h : 1 ≤ s.size) : 1 ≤ msS s ∧ msS s ≤ s.size := by
  unfold msS ms
  split
  · split <;> omega
  · omega

theorem msS_le3 (s : ByteArray) : msS s ≤ 3 := by
  unfold msS ms
  split
  · split <;> omega
  · omega

theorem size_pre (s : ByteArray) (r : Nat) (h : r ≤ s.size) : (s.extract 0 r).size = r := by
  rw [ByteArray.size_extract]; omega

theorem bt_pre (s : ByteArray) (r i : Nat) (h : i < r) (h2 : r ≤ s.size) : bt (s.extract 0 r) i = bt s i := by
  rw [← bt_get _ i (by rw [size_pre s r h2]; exact h), ← bt_get s i (by omega), ByteArray.getElem_extract]
  simp

theorem idem (s : ByteArray) (h : 1 ≤ s.size) : msS (s.extract 0 (msS s).toNat) = msS s := by
  have hb := msS_bd s h
  have hz := size_pre s (msS s).toNat (by omega)
  generalize hr : (msS s).toNat = r at *
  have hr' : msS s = (r : Int) := by omega
  rw [hr']
  unfold msS
  rw [hz]
  have h0 := bt_pre s r 0 (by omega) (by omega)
  rw [h0]
  by_cases h1 : 1 < r
  · have e1 := bt_pre s r 1 h1 (by omega)
    rw [e1]
    unfold msS ms at hr'
    split at hr'
    case isTrue c =>
      split at hr'
      case isTrue d =>
        have e2 := bt_pre s r 2 (by omega) (by omega)
        rw [e2]
        exact (ms_three (by omega) c.2 ⟨d.1, by omega, d.2.2⟩).symm.trans hr'
      case isFalse d =>
        exact (ms_two (by omega) c.2 (by omega)).symm.trans hr'
    case isFalse c => omega
  · have : r = 1 := by omega
    exact (ms_one (by omega)).symm.trans (by omega)

end Go.Proofs.Qxb6000762a.Msub
