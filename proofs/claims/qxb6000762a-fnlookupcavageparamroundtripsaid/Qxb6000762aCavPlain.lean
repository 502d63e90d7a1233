/-
  Plain: the seven names, in any letter case. No Go in sight.
-/
import Derived.ProofKit
import Derived.Laws.BytesArg
import Derived.Laws.BitsAllLaws
import Derived.Test.Qxb6000762aMsPlain
namespace Go.Proofs.Qxb6000762a.Msub
open Go.RowKit

/-- byte i of the array 'lower' behind k rounds -/
def lw (s : ByteArray) (k i : Nat) : Int := if i < k then bits .or .u8 (bt s i) 32 else 0

theorem lw_zero (s : ByteArray) (i : Nat) : lw s 0 i = 0 := by unfold lw; rw [if_neg (by omega)]
theorem lw_same (s : ByteArray) (k : Nat) : lw s (k + 1) k = bits .or .u8 (bt s k) 32 := by unfold lw; rw [if_pos (by omega)]
theorem lw_other (s : ByteArray) (k i : Nat) (h : i ≠ k) : lw s (k + 1) i = lw s k i := by
  unfold lw
  by_cases c : i < k
  · rw [if_pos c, if_pos (by omega)]
  · rw [if_neg c, if_neg (by omega)]

/-- the string that the switch looks at -/
def Low (s : ByteArray) : ByteArray := strOfNums ((List.range s.size).map (lw s s.size))

/-- the seven names in lower case -/
def kl (k : Nat) : List UInt8 :=
  match k with
  | 0 => [107, 101, 121, 105, 100]
  | 1 => [117, 115, 101, 114, 110, 97, 109, 101]
  | 2 => [97, 108, 103, 111, 114, 105, 116, 104, 109]
  | 3 => [104, 101, 97, 100, 101, 114, 115]
  | 4 => [115, 105, 103, 110, 97, 116, 117, 114, 101]
  | 5 => [99, 114, 101, 97, 116, 101, 100]
  | 6 => [101, 120, 112, 105, 114, 101, 115]
  | _ => []

/-- .. and as the drafts write them -/
def cl (k : Nat) : List UInt8 :=
  match k with
  | 0 => [107, 101, 121, 73, 100]
  | 1 => [117, 115, 101, 114, 110, 97, 109, 101]
  | 2 => [97, 108, 103, 111, 114, 105, 116, 104, 109]
  | 3 => [104, 101, 97, 100, 101, 114, 115]
  | 4 => [115, 105, 103, 110, 97, 116, 117, 114, 101]
  | 5 => [99, 114, 101, 97, 116, 101, 100]
  | 6 => [101, 120, 112, 105, 114, 101, 115]
  | _ => []
def cn (k : Nat) : ByteArray := ⟨(cl k).toArray⟩

/-- what lookupCavageParam answers, of the lower-case string -/
def lkI (l : List UInt8) : Int :=
  if l == kl 0 then 0 else if l == kl 1 then 1 else if l == kl 2 then 2 else if l == kl 3 then 3 else if l == kl 4 then 4 else if l == kl 5 then 5 else if l == kl 6 then 6 else 0
def lkB (l : List UInt8) : Bool :=
  if l == kl 0 then true else if l == kl 1 then true else if l == kl 2 then true else if l == kl 3 then true else if l == kl 4 then true else if l == kl 5 then true else if l == kl 6 then true else false

theorem below7 (k : Nat) (h : k < 7) : k = 0 ∨ k = 1 ∨ k = 2 ∨ k = 3 ∨ k = 4 ∨ k = 5 ∨ k = 6 := by omega

theorem lk_at {l : List UInt8} (k : Nat) (h : k < 7) (hl : l = kl k) : (k : Int) = lkI l ∧ true = lkB l := by
  subst hl
  rcases below7 k h with rfl | rfl | rfl | rfl | rfl | rfl | rfl <;> decide
theorem lk_no {l : List UInt8} (h : ∀ k, k < 7 → l ≠ kl k) : 0 = lkI l ∧ false = lkB l := by
  have e : ∀ k, k < 7 → (l == kl k) = false := fun k hk => by rw [beq_eq_false_iff_ne]; exact h k hk
  unfold lkI lkB
  simp [e 0 (by omega), e 1 (by omega), e 2 (by omega), e 3 (by omega), e 4 (by omega), e 5 (by omega), e 6 (by omega)]

theorem kl_inj {i j : Nat} (hi : i < 7) (hj : j < 7) (h : kl i = kl j) : i = j := by
  rcases below7 i hi with rfl | rfl | rfl | rfl | rfl | rfl | rfl <;>
  rcases below7 j hj with rfl | rfl | rfl | rfl | rfl | rfl | rfl <;> first | rfl | exact absurd h (by decide)

theorem low_size (s : ByteArray) : (Low s).size = s.size := by
  unfold Low; rw [strOfNums_size]; simp

theorem or32 : ∀ n : Fin 256, n.val ||| 32 = if n.val / 32 % 2 = 1 then n.val else n.val + 32 := by decide +kernel

/-- 'c or 0x20' as a number -/
def orI (c : Int) : Int := if c / 32 % 2 = 1 then c else c + 32
theorem orI_eq (c : Int) (h0 : 0 ≤ c) (h1 : c ≤ 255) : bits .or .u8 c 32 = orI c := by
  obtain ⟨n, rfl⟩ := Int.eq_ofNat_of_zero_le h0
  have hn : n < 256 := by omega
  have e := u8_or_nat n 32 hn (by omega)
  have e2 := or32 ⟨n, hn⟩
  simp only at e2
  have e3 : bits BinOp.or IntKind.u8 (n : Int) 32 = ((n ||| 32 : Nat) : Int) := e
  rw [e3, e2]
  unfold orI
  by_cases c : n / 32 % 2 = 1
  · rw [if_pos c, if_pos (by omega)]
  · rw [if_neg c, if_neg (by omega)]; omega

theorem bt_low (s : ByteArray) (i : Nat) (h : i < s.size) : bt (Low s) i = orI (bt s i) := by
  have hb := bt_bd s i
  have e := orI_eq (bt s i) hb.1 hb.2
  have ho : 0 ≤ orI (bt s i) ∧ orI (bt s i) ≤ 255 := by unfold orI; split <;> omega
  show (((strOfNums ((List.range s.size).map (lw s s.size))).data.toList.getD i 0).toNat : Int) = _
  rw [strOfNums_data, List.getD_eq_getElem?_getD]
  simp only [List.getElem?_map, List.getElem?_range h, Option.map_some, Option.getD_some]
  unfold lw
  rw [if_pos h, e]
  generalize orI (bt s i) = x at *
  obtain ⟨n, rfl⟩ := Int.eq_ofNat_of_zero_le ho.1
  simp only [Int.toNat_natCast]
  rw [UInt8.toNat_ofNat']
  omega

/-- byte i of a list -/
def bl (l : List UInt8) (i : Nat) : Int := ((l.getD i 0).toNat : Int)
theorem bt_eq_bl (s : ByteArray) (i : Nat) : bt s i = bl s.data.toList i := rfl

theorem list_ext {a b : List UInt8} (hl : a.length = b.length) (h : ∀ i, i < a.length → bl a i = bl b i) : a = b := by
  refine List.ext_getElem hl fun i h1 h2 => ?_
  have e := h i h1
  unfold bl at e
  rw [List.getD_eq_getElem?_getD, List.getD_eq_getElem?_getD, List.getElem?_eq_getElem h1, List.getElem?_eq_getElem h2] at e
  simp only [Option.getD_some] at e
  exact UInt8.toNat_inj.1 (by omega)

/-- the lower-case string is a given list -/
theorem low_iff (s : ByteArray) (l : List UInt8) : (Low s).toList = l ↔ s.size = l.length ∧ ∀ i, i < l.length → orI (bt s i) = bl l i := by
  have hs : (Low s).toList.length = s.size := by rw [ByteArray.toList_eq]; simpa using low_size s
  constructor
  · intro h
    subst h
    refine ⟨hs.symm, fun i hi => ?_⟩
    rw [← bt_low s i (by omega), bt_eq_bl, ByteArray.toList_eq]
  · rintro ⟨h1, h2⟩
    refine list_ext (by omega) fun i hi => ?_
    rw [← h2 i (by omega), ← bt_low s i (by omega), bt_eq_bl, ByteArray.toList_eq]

/-- lowerASCII, upperASCII -/
def lwI (c : Int) : Int := if 65 ≤ c ∧ c ≤ 90 then c + 32 else c
def upI (c : Int) : Int := if 97 ≤ c ∧ c ≤ 122 then c - 32 else c

/-- foldEqual -/
def feB (a b : ByteArray) : Bool := decide (a.size = b.size ∧ ∀ i, i < a.size → lwI (bt a i) = lwI (bt b i))
theorem feB_iff (a b : ByteArray) : feB a b = true ↔ a.size = b.size ∧ ∀ i, i < a.size → lwI (bt a i) = lwI (bt b i) := by
  unfold feB; exact decide_eq_true_iff

theorem cn_size (k : Nat) : (cn k).size = (cl k).length := rfl
theorem bt_cn (k i : Nat) : bt (cn k) i = bl (cl k) i := rfl

/-- each byte of the names, both spellings -/
theorem letters (k : Nat) (h : k < 7) : (kl k).length = (cl k).length ∧ ∀ i : Fin 9, i.val < (cl k).length → (lwI (bl (cl k) i.val) = bl (kl k) i.val ∧ 97 ≤ bl (kl k) i.val ∧ bl (kl k) i.val ≤ 122 ∧ (bl (cl k) i.val = bl (kl k) i.val ∨ bl (cl k) i.val = bl (kl k) i.val - 32)) := by
  rcases below7 k h with rfl | rfl | rfl | rfl | rfl | rfl | rfl <;> decide
theorem cl_len (k : Nat) (h : k < 7) : (cl k).length ≤ 9 := by
  rcases below7 k h with rfl | rfl | rfl | rfl | rfl | rfl | rfl <;> decide

/-- lookupCavageParam's name k is foldEqual's name k -/
theorem name_iff (s : ByteArray) (k : Nat) (hk : k < 7) : (Low s).toList = kl k ↔ feB s (cn k) = true := by
  have hL := letters k hk
  have h9 := cl_len k hk
  rw [low_iff, feB_iff, cn_size, hL.1]
  constructor
  · rintro ⟨h1, h2⟩
    refine ⟨h1, fun i hi => ?_⟩
    have e := h2 i (by omega)
    have l := hL.2 ⟨i, by omega⟩ (by simp only; omega)
    simp only at l
    have hb := bt_bd s i
    rw [bt_cn, l.1]
    unfold orI at e
    unfold lwI
    split at e <;> split <;> omega
  · rintro ⟨h1, h2⟩
    refine ⟨h1, fun i hi => ?_⟩
    have e := h2 i (by omega)
    have l := hL.2 ⟨i, by omega⟩ (by simp only; omega)
    simp only at l
    have hb := bt_bd s i
    rw [bt_cn, l.1] at e
    unfold orI
    unfold lwI at e
    split at e <;> split <;> omega
end Go.Proofs.Qxb6000762a.Msub
