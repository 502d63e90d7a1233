/-
  Plain: how many lies each window holds, and where it lies. No Go in sight.
-/
import Derived.ProofKit
namespace Go.Proofs.Qxb6601175a.Idx

/-- of the first j lies those with key q -/
def cnt (key : Nat → Nat) (q : Nat) : Nat → Nat
  | 0 => 0
  | j + 1 => cnt key q j + (if key j = q then 1 else 0)

/-- of the first j lies those with a key below N -/
def one (key : Nat → Nat) (N : Nat) : Nat → Nat
  | 0 => 0
  | j + 1 => one key N j + (if key j < N then 1 else 0)

/-- the sum of the counts of the windows before q -/
def stj (key : Nat → Nat) (j : Nat) : Nat → Nat
  | 0 => 0
  | q + 1 => stj key j q + cnt key q j

theorem cnt_hit {key : Nat → Nat} {q j : Nat} (h : key j = q) : cnt key q (j + 1) = cnt key q j + 1 := by simp [cnt, h]
theorem cnt_miss {key : Nat → Nat} {q j : Nat} (h : key j ≠ q) : cnt key q (j + 1) = cnt key q j := by simp [cnt, h]
theorem one_hit {key : Nat → Nat} {N j : Nat} (h : key j < N) : one key N (j + 1) = one key N j + 1 := by simp [one, h]
theorem one_miss {key : Nat → Nat} {N j : Nat} (h : ¬ key j < N) : one key N (j + 1) = one key N j := by simp [one, h]

theorem cnt_mono (key : Nat → Nat) (q : Nat) {a b : Nat} (h : a ≤ b) : cnt key q a ≤ cnt key q b := by
  induction b with
  | zero => obtain rfl : a = 0 := by omega
            exact Nat.le_refl _
  | succ b ih =>
    by_cases e : a = b + 1
    · subst e; exact Nat.le_refl _
    · have := ih (by omega)
      simp only [cnt]; omega

theorem cnt_lt {key : Nat → Nat} {q i n : Nat} (h : key i = q) (hi : i < n) : cnt key q i < cnt key q n := by
  have := cnt_mono key q (a := i + 1) (b := n) (by omega)
  rw [cnt_hit h] at this
  omega

theorem cnt_le_one {key : Nat → Nat} {q N : Nat} (hq : q < N) : ∀ j, cnt key q j ≤ one key N j := by
  intro j
  induction j with
  | zero => exact Nat.le_refl _
  | succ j ih =>
    simp only [cnt, one]
    split
    · rw [if_pos (by omega)]; omega
    · split <;> omega

theorem one_le (key : Nat → Nat) (N : Nat) : ∀ j, one key N j ≤ j := by
  intro j
  induction j with
  | zero => exact Nat.le_refl _
  | succ j ih => simp only [one]; split <;> omega

theorem stj_succ (key : Nat → Nat) (j : Nat) : ∀ q, stj key (j + 1) q = stj key j q + (if key j < q then 1 else 0) := by
  intro q
  induction q with
  | zero => simp [stj]
  | succ q ih =>
    simp only [stj, ih, cnt]
    by_cases h1 : key j < q
    · rw [if_pos h1, if_neg (by omega), if_pos (by omega)]; omega
    · rw [if_neg h1]
      by_cases h2 : key j = q
      · rw [if_pos h2, if_pos (by omega)]; omega
      · rw [if_neg h2, if_neg (by omega)]; omega

theorem stj_one (key : Nat → Nat) (N : Nat) : ∀ j, stj key j N = one key N j := by
  intro j
  induction j with
  | zero =>
    have : ∀ q, stj key 0 q = 0 := fun q => by
      induction q with
      | zero => rfl
      | succ q ih => simp [stj, ih, cnt]
    exact this N
  | succ j ih => rw [stj_succ, ih]; simp only [one]

theorem stj_mono (key : Nat → Nat) (n : Nat) {a b : Nat} (h : a ≤ b) : stj key n a ≤ stj key n b := by
  induction b with
  | zero => obtain rfl : a = 0 := by omega
            exact Nat.le_refl _
  | succ b ih =>
    by_cases e : a = b + 1
    · subst e; exact Nat.le_refl _
    · have := ih (by omega)
      simp only [stj]; omega

/-- a window ends before the array does -/
theorem st_end {key : Nat → Nat} {n q N : Nat} (hq : q < N) : stj key n q + cnt key q n ≤ one key N n := by
  have h := stj_mono key n (a := q + 1) (b := N) (by omega)
  have h1 := stj_one key N n
  have h2 : stj key n (q + 1) = stj key n q + cnt key q n := rfl
  omega

/-- the place of lie i -/
def pl (key : Nat → Nat) (n i : Nat) : Nat := stj key n (key i) + cnt key (key i) i

theorem pl_lt {key : Nat → Nat} {n i N : Nat} (hi : i < n) (hk : key i < N) : pl key n i < one key N n := by
  have h1 := st_end (key := key) (n := n) hk
  have h2 := cnt_lt (key := key) rfl hi
  unfold pl; omega

theorem pl_ne {key : Nat → Nat} {n i j : Nat} (hi : i < j) (hj : j < n) : pl key n i ≠ pl key n j := by
  unfold pl
  by_cases e : key i = key j
  · have := cnt_lt (key := key) (q := key i) rfl hi
    rw [e] at this ⊢
    omega
  · have hi' := cnt_lt (key := key) (q := key i) (i := i) (n := n) rfl (by omega)
    have hj' := cnt_lt (key := key) (q := key j) (i := j) (n := n) rfl (by omega)
    rcases Nat.lt_or_ge (key i) (key j) with h | h
    · have := stj_mono key n (a := key i + 1) (b := key j) (by omega)
      simp only [stj] at this
      omega
    · have := stj_mono key n (a := key j + 1) (b := key i) (by omega)
      simp only [stj] at this
      omega

/-- the last lie before j that is told on general k's other messages -/
def lastI (fr : Nat → Int) (k : Int) : Nat → Option Nat
  | 0 => none
  | j + 1 => if fr j = k ∧ fr j ≠ 0 then some j else lastI fr k j

theorem lastI_lt {fr : Nat → Int} {k : Int} : ∀ {j i : Nat}, lastI fr k j = some i → i < j
  | 0, i, h => by simp [lastI] at h
  | j + 1, i, h => by
    simp only [lastI] at h
    split at h
    · simp at h; omega
    · have := lastI_lt h; omega
end Go.Proofs.Qxb6601175a.Idx
