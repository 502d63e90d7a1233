/-
  Plain laws on what prefixOK answers: no Go in sight.
-/
import Derived.ProofKit
import Derived.Laws.BitsLemmas
import Derived.Test.Qxb6000762aMsPlain
namespace Go.Proofs.Qxb6000762a.Msub

/-- seqLen -/
def sl (a : Int) : Int := if a < 128 then 1 else if a < 192 then 0 else if a < 224 then 2 else if a < 240 then 3 else if a < 248 then 4 else 0

theorem sl_zero {a : Int} (h : sl a = 0) : (128 ≤ a ∧ a < 192) ∨ 248 ≤ a := by unfold sl at h; repeat' split at h <;> omega
theorem sl_one {a : Int} (h : sl a = 1) : a < 128 := by unfold sl at h; repeat' split at h <;> omega
theorem sl_two {a : Int} (h : sl a = 2) : 192 ≤ a ∧ a < 224 := by unfold sl at h; repeat' split at h <;> omega
theorem sl_three {a : Int} (h : sl a = 3) : 224 ≤ a ∧ a < 240 := by unfold sl at h; repeat' split at h <;> omega
theorem sl_four {a : Int} (h : sl a = 4) : 240 ≤ a ∧ a < 248 := by unfold sl at h; repeat' split at h <;> omega
theorem sl_cases (a : Int) : sl a = 0 ∨ sl a = 1 ∨ sl a = 2 ∨ sl a = 3 ∨ sl a = 4 := by unfold sl; repeat' split <;> omega

/-- the code point bits gathered behind j continuation bytes -/
def pv (L : Int) (s : ByteArray) : Nat → Int
  | 0 => L
  | j + 1 => pv L s j * 64 + bt s (j + 1) % 64

theorem pv_bd (L : Int) (s : ByteArray) (j : Nat) (h : j ≤ 2) (h0 : 0 ≤ L) (h1 : L < 128) : 0 ≤ pv L s j ∧ pv L s j < 1048576 := by
  match j, h with
  | 0, _ => simp only [pv]; omega
  | 1, _ => simp only [pv]; omega
  | 2, _ => simp only [pv]; omega

theorem pv_bd3 (L : Int) (s : ByteArray) (h0 : 0 ≤ L) (h1 : L < 8) : 0 ≤ pv L s 3 ∧ pv L s 3 < 2097152 := by
  simp only [pv]; omega

/-- do the code points lo .. hi meet the scalar values mn .. mx? -/
def Fit (mn mx lo hi : Int) : Prop := max lo mn ≤ min hi mx ∧ ¬ (55296 ≤ max lo mn ∧ min hi mx ≤ 57343)

/-- bytes 1 .. of s are continuation bytes -/
def Cont (s : ByteArray) (k : Nat) : Prop := ∀ j, j < k → 1 ≤ j → 128 ≤ bt s j ∧ bt s j ≤ 191

theorem u32_join (i : Nat) (x y : Int) (hx0 : 0 ≤ x) (hx : x % 2 ^ i = 0) (hx1 : x < 4294967296) (h0 : 0 ≤ y) (h1 : y < 2 ^ i) (h2 : y < 4294967296) :
    bits .or .u32 x y = x + y := by
  refine bits_join .u32 32 (by decide) ?_ i x y hx0 hx (by omega) h0 h1 (by omega)
  intro n a b
  rw [IntKind.wrap_u32]
  omega

theorem or64 (x y : Int) (h0 : 0 ≤ x) (h1 : x < 1048576) : bits .or .u32 (x * 64) (y % 64) = x * 64 + y % 64 :=
  u32_join 6 _ _ (by omega) (by omega) (by omega) (by omega) (by omega) (by omega)

theorem ends (d : Nat) (hd : d ≤ 3) (x : Int) (h0 : 0 ≤ x) (h1 : x * 2 ^ (6 * d) < 4294967296) :
    x * 2 ^ (6 * d) % 4294967296 = x * 2 ^ (6 * d) ∧
    bits .or .u32 (x * 2 ^ (6 * d) % 4294967296) ((2 ^ (6 * d) - 1) % 4294967296) = x * 2 ^ (6 * d) + (2 ^ (6 * d) - 1) := by
  have hd' : d = 0 ∨ d = 1 ∨ d = 2 ∨ d = 3 := by omega
  rcases hd' with rfl | rfl | rfl | rfl
  all_goals
    simp only [Nat.reduceMul, Int.reducePow, Int.reduceSub, Int.reduceMod] at h1 ⊢
    rw [Int.emod_eq_of_lt (by omega) h1]
    refine ⟨rfl, ?_⟩
  · exact u32_join 0 _ _ (by omega) (by omega) (by omega) (by omega) (by omega) (by omega)
  · exact u32_join 6 _ _ (by omega) (by omega) (by omega) (by omega) (by omega) (by omega)
  · exact u32_join 12 _ _ (by omega) (by omega) (by omega) (by omega) (by omega) (by omega)
  · exact u32_join 18 _ _ (by omega) (by omega) (by omega) (by omega) (by omega) (by omega)

theorem scaled1 (L : Int) (s : ByteArray) (m : Nat) (h : 1 ≤ m) (h' : m ≤ 1) (h0 : 0 ≤ L) (h1 : L < 128) :
    0 ≤ pv L s (m - 1) ∧ pv L s (m - 1) * 2 ^ (6 * (1 - m)) < 4294967296 := by
  obtain rfl : m = 1 := by omega
  simp only [pv, Nat.sub_self, Nat.mul_zero, Int.reducePow]
  omega
theorem scaled2 (L : Int) (s : ByteArray) (m : Nat) (h : 1 ≤ m) (h' : m ≤ 2) (h0 : 0 ≤ L) (h1 : L < 32) :
    0 ≤ pv L s (m - 1) ∧ pv L s (m - 1) * 2 ^ (6 * (2 - m)) < 4294967296 := by
  have hm : m = 1 ∨ m = 2 := by omega
  rcases hm with rfl | rfl
  all_goals
    simp only [pv, Nat.reduceSub, Nat.reduceMul, Int.reducePow]
    omega
theorem scaled3 (L : Int) (s : ByteArray) (m : Nat) (h : 1 ≤ m) (h' : m ≤ 3) (h0 : 0 ≤ L) (h1 : L < 16) :
    0 ≤ pv L s (m - 1) ∧ pv L s (m - 1) * 2 ^ (6 * (3 - m)) < 4294967296 := by
  have hm : m = 1 ∨ m = 2 ∨ m = 3 := by omega
  rcases hm with rfl | rfl | rfl
  all_goals
    simp only [pv, Nat.reduceSub, Nat.reduceMul, Int.reducePow]
    omega
theorem scaled4 (L : Int) (s : ByteArray) (m : Nat) (h : 1 ≤ m) (h' : m ≤ 4) (h0 : 0 ≤ L) (h1 : L < 8) :
    0 ≤ pv L s (m - 1) ∧ pv L s (m - 1) * 2 ^ (6 * (4 - m)) < 4294967296 := by
  have hm : m = 1 ∨ m = 2 ∨ m = 3 ∨ m = 4 := by omega
  rcases hm with rfl | rfl | rfl | rfl
  all_goals
    simp only [pv, Nat.reduceSub, Nat.reduceMul, Int.reducePow]
    omega

/-- prefixOK at a lead of n bytes, by code-point arithmetic -/
def POKn (n : Nat) (mn mx L : Int) (s : ByteArray) : Prop :=
  Cont s s.size ∧ Fit mn mx (pv L s (s.size - 1) * 2 ^ (6 * (n - s.size))) (pv L s (s.size - 1) * 2 ^ (6 * (n - s.size)) + (2 ^ (6 * (n - s.size)) - 1))

/-- the same as a truth value -/
def pokB (n : Nat) (mn mx L : Int) (s : ByteArray) : Bool :=
  decide ((∀ j, j < s.size → 1 ≤ j → 128 ≤ bt s j ∧ bt s j ≤ 191) ∧
    (max (pv L s (s.size - 1) * 2 ^ (6 * (n - s.size))) mn ≤ min (pv L s (s.size - 1) * 2 ^ (6 * (n - s.size)) + (2 ^ (6 * (n - s.size)) - 1)) mx
      ∧ ¬ (55296 ≤ max (pv L s (s.size - 1) * 2 ^ (6 * (n - s.size))) mn ∧ min (pv L s (s.size - 1) * 2 ^ (6 * (n - s.size)) + (2 ^ (6 * (n - s.size)) - 1)) mx ≤ 57343)))

theorem pokB_iff (n : Nat) (mn mx L : Int) (s : ByteArray) : pokB n mn mx L s = true ↔ POKn n mn mx L s := by
  unfold pokB POKn Fit Cont
  exact decide_eq_true_iff

theorem not_pok {n : Nat} {mn mx L : Int} {s : ByteArray} {k : Nat} (h1 : 1 ≤ k) (h2 : k < s.size) (h : bt s k < 128 ∨ 191 < bt s k) : false = pokB n mn mx L s := by
  refine (Bool.eq_false_iff.2 fun e => ?_).symm
  have := ((pokB_iff _ _ _ _ _).1 e).1 k h2 h1
  omega

end Go.Proofs.Qxb6000762a.Msub
