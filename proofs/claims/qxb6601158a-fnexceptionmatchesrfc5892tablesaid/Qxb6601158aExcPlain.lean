/-
  Plain: the exceptions of RFC 5892 section 2.6 as a function and as a table. No Go in sight.
-/
import Derived.ProofKit
namespace Go.Proofs.Qxb6601158a.Exc

/-- row k of the table: its first and its last code point, its property -/
def rw_ (k : Nat) : Int × Int × Int :=
  match k with
  | 0 => (183, 183, 3)
  | 1 => (223, 223, 1)
  | 2 => (885, 885, 3)
  | 3 => (962, 962, 1)
  | 4 => (1523, 1524, 3)
  | 5 => (1600, 1600, 0)
  | 6 => (1632, 1641, 3)
  | 7 => (1776, 1785, 3)
  | 8 => (1789, 1790, 1)
  | 9 => (2042, 2042, 0)
  | 10 => (3851, 3851, 1)
  | 11 => (12295, 12295, 1)
  | 12 => (12334, 12335, 0)
  | 13 => (12337, 12341, 0)
  | 14 => (12347, 12347, 0)
  | 15 => (12539, 12539, 3)
  | _ => (1, 0, 0)

def lo (k : Nat) : Int := (rw_ k).1
def hi (k : Nat) : Int := (rw_ k).2.1
def pr (k : Nat) : Int := (rw_ k).2.2

theorem below (k : Nat) (h : k < 16) : k = 0 ∨ k = 1 ∨ k = 2 ∨ k = 3 ∨ k = 4 ∨ k = 5 ∨ k = 6 ∨ k = 7 ∨ k = 8 ∨ k = 9 ∨ k = 10 ∨ k = 11 ∨ k = 12 ∨ k = 13 ∨ k = 14 ∨ k = 15 := by omega

def isV (r : Int) : Prop := r = 223 ∨ r = 962 ∨ r = 1789 ∨ r = 1790 ∨ r = 3851 ∨ r = 12295
def isO (r : Int) : Prop := r = 183 ∨ r = 885 ∨ r = 1523 ∨ r = 1524 ∨ r = 12539 ∨ (1632 ≤ r ∧ r ≤ 1641) ∨ (1776 ≤ r ∧ r ≤ 1785)
def isD (r : Int) : Prop := r = 1600 ∨ r = 2042 ∨ r = 12334 ∨ r = 12335 ∨ r = 12347 ∨ (12337 ≤ r ∧ r ≤ 12341)

/-- what exception answers: a property, and whether there is one -/
def prop (r : Int) : Int :=
  if r = 223 ∨ r = 962 ∨ r = 1789 ∨ r = 1790 ∨ r = 3851 ∨ r = 12295 then 1
  else if r = 183 ∨ r = 885 ∨ r = 1523 ∨ r = 1524 ∨ r = 12539 ∨ (1632 ≤ r ∧ r ≤ 1641) ∨ (1776 ≤ r ∧ r ≤ 1785) then 3 else 0
def has (r : Int) : Bool :=
  if r = 223 ∨ r = 962 ∨ r = 1789 ∨ r = 1790 ∨ r = 3851 ∨ r = 12295 then true
  else if r = 183 ∨ r = 885 ∨ r = 1523 ∨ r = 1524 ∨ r = 12539 ∨ (1632 ≤ r ∧ r ≤ 1641) ∨ (1776 ≤ r ∧ r ≤ 1785) then true
  else if r = 1600 ∨ r = 2042 ∨ r = 12334 ∨ r = 12335 ∨ r = 12347 ∨ (12337 ≤ r ∧ r ≤ 12341) then true else false

theorem at_V {r : Int} (h : isV r) : 1 = prop r ∧ true = has r := by
  unfold isV at h; unfold prop has; rw [if_pos h, if_pos h]; exact ⟨rfl, rfl⟩
theorem at_O {r : Int} (h : isO r) : 3 = prop r ∧ true = has r := by
  have hv : ¬ isV r := by unfold isV isO at *; omega
  unfold isO at h; unfold isV at hv; unfold prop has
  rw [if_neg hv, if_neg hv, if_pos h, if_pos h]; exact ⟨rfl, rfl⟩
theorem at_D {r : Int} (h : isD r) : 0 = prop r ∧ true = has r := by
  have hv : ¬ isV r := by unfold isV isD at *; omega
  have ho : ¬ isO r := by unfold isO isD at *; omega
  unfold isD at h; unfold isV at hv; unfold isO at ho; unfold prop has
  rw [if_neg hv, if_neg hv, if_neg ho, if_neg ho, if_pos h]; exact ⟨rfl, rfl⟩
theorem at_no {r : Int} (h : ¬ isV r ∧ ¬ isO r ∧ ¬ isD r) : 0 = prop r ∧ false = has r := by
  obtain ⟨hv, ho, hd⟩ := h
  unfold isD at hd; unfold isV at hv; unfold isO at ho; unfold prop has
  rw [if_neg hv, if_neg hv, if_neg ho, if_neg ho, if_neg hd]; exact ⟨rfl, rfl⟩

/-- a hit in row k -/
theorem hit (k : Nat) (h : k < 16) (r : Int) (h1 : lo k ≤ r) (h2 : r ≤ hi k) : pr k = prop r ∧ true = has r := by
  rcases below k h with rfl | rfl | rfl | rfl | rfl | rfl | rfl | rfl | rfl | rfl | rfl | rfl | rfl | rfl | rfl | rfl
  all_goals
    simp only [lo, hi, rw_] at h1 h2
    first
      | exact at_V (by unfold isV; omega)
      | exact at_O (by unfold isO; omega)
      | exact at_D (by unfold isD; omega)

theorem miss (r : Int) (h : ∀ j, j < 16 → ¬ (lo j ≤ r ∧ r ≤ hi j)) : 0 = prop r ∧ false = has r := by
  have h0 := h 0 (by omega)
  have h1 := h 1 (by omega)
  have h2 := h 2 (by omega)
  have h3 := h 3 (by omega)
  have h4 := h 4 (by omega)
  have h5 := h 5 (by omega)
  have h6 := h 6 (by omega)
  have h7 := h 7 (by omega)
  have h8 := h 8 (by omega)
  have h9 := h 9 (by omega)
  have h10 := h 10 (by omega)
  have h11 := h 11 (by omega)
  have h12 := h 12 (by omega)
  have h13 := h 13 (by omega)
  have h14 := h 14 (by omega)
  have h15 := h 15 (by omega)
  simp only [lo, hi, rw_] at *
  refine at_no ⟨?_, ?_, ?_⟩
  · unfold isV; omega
  · unfold isO; omega
  · unfold isD; omega
end Go.Proofs.Qxb6601158a.Exc
