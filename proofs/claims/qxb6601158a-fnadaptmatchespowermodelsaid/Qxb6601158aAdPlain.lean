/-
  Plain: the band of the scaled delta, by repeated division and by thresholds. No Go in sight.
-/
import Derived.ProofKit
namespace Go.Proofs.Qxb6601158a.Adapt

/-- powers of 35 -/
def p35 : Nat → Int
  | 0 => 1
  | k + 1 => 35 * p35 k

theorem p35_pos (k : Nat) : 1 ≤ p35 k := by
  induction k with
  | zero => simp only [p35]; omega
  | succ k ih => simp only [p35]; omega

theorem p35_mono {a b : Nat} (h : a ≤ b) : p35 a ≤ p35 b := by
  induction b with
  | zero => obtain rfl : a = 0 := by omega
            omega
  | succ b ih =>
    have hp := p35_pos b
    by_cases e : a = b + 1
    · subst e; omega
    · have := ih (by omega)
      simp only [p35]; omega

theorem p35_10 : 456 * p35 10 = 1257897593203125000 := by simp only [p35]; omega
theorem p35_11 : 456 * p35 11 = 44026415762109375000 := by simp only [p35]; omega

/-- D lies in band j -/
def Lvl (D : Int) (j : Nat) : Prop := (∀ t, t < j → 456 * p35 t ≤ D) ∧ D < 456 * p35 j

theorem lvl_one {D : Int} {i j : Nat} (hi : Lvl D i) (hj : Lvl D j) : i = j := by
  by_cases h1 : i < j
  · have := hj.1 i h1; have := hi.2; omega
  · by_cases h2 : j < i
    · have := hi.1 j h2; have := hj.2; omega
    · omega

/-- the band, reckoned -/
def up (D : Int) : Nat → Nat → Nat
  | 0, t => t
  | f + 1, t => if 456 * p35 t ≤ D then up D f (t + 1) else t

theorem up_lvl (D : Int) : ∀ f t, (∀ s, s < t → 456 * p35 s ≤ D) → D < 456 * p35 (t + f) → Lvl D (up D f t) := by
  intro f
  induction f with
  | zero => intro t h1 h2; exact ⟨h1, h2⟩
  | succ f ih =>
    intro t h1 h2
    unfold up
    by_cases c : 456 * p35 t ≤ D
    · rw [if_pos c]
      refine ih (t + 1) (fun s hs => ?_) ?_
      · by_cases e : s = t
        · subst e; exact c
        · exact h1 s (by omega)
      · have e : t + 1 + f = t + (f + 1) := by omega
        rw [e]; exact h2
    · rw [if_neg c]
      exact ⟨h1, by omega⟩

def lv (D : Int) : Nat := up D 11 0

theorem lv_lvl {D : Int} (h : D ≤ 9223372036854775807) : Lvl D (lv D) :=
  up_lvl D 11 0 (fun s hs => absurd hs (by omega)) (by have := p35_11; show D < 456 * p35 11; omega)

theorem lv_eq {D : Int} {j : Nat} (h : D ≤ 9223372036854775807) (hj : Lvl D j) : lv D = j := lvl_one (lv_lvl h) hj

theorem le10 {D : Int} {t : Nat} (h : D ≤ 9223372036854775807) (ht : 456 * p35 t ≤ D) : t ≤ 10 := by
  by_cases c : t ≤ 10
  · exact c
  · have := p35_mono (a := 11) (b := t) (by omega)
    have := p35_11
    omega

/-- floor (D / P) ≥ 456 just where D ≥ 456 P -/
theorem div_ge (D P : Int) (hP : 1 ≤ P) : 455 < D / P ↔ 456 * P ≤ D := by
  have h := Int.le_ediv_iff_mul_le (a := 456) (b := D) (c := P) (by omega)
  omega

theorem div_next (D : Int) (t : Nat) : D / p35 t / 35 = D / p35 (t + 1) := by
  have hp := p35_pos t
  rw [Int.ediv_ediv_of_nonneg (by omega)]
  simp only [p35]
  rw [Int.mul_comm]

theorem div_bd (D P : Int) (h0 : 0 ≤ D) (hP : 1 ≤ P) : 0 ≤ D / P ∧ D / P ≤ D :=
  ⟨Int.ediv_nonneg h0 (by omega), Int.ediv_le_self P h0⟩

theorem frac_bd (x : Int) (h : 0 ≤ x) : 0 ≤ 36 * x / (x + 38) ∧ 36 * x / (x + 38) ≤ 36 :=
  ⟨Int.ediv_nonneg (by omega) (by omega), Int.ediv_le_of_le_mul (by omega) (by omega)⟩

/-- the answer -/
def res (D : Int) (j : Nat) : Int := 36 * (j : Int) + 36 * (D / p35 j) / (D / p35 j + 38)

/-- what the scan of the thresholds keeps: j is one more than the last k with 456 * 35^k ≤ D -/
def Seen (D : Int) (k j : Nat) : Prop := j ≤ k ∧ (∀ s, s < k → 456 * p35 s ≤ D → s < j) ∧ (0 < j → 456 * p35 (j - 1) ≤ D)

theorem seen_zero (D : Int) : Seen D 0 0 := ⟨Nat.le_refl _, fun s hs => absurd hs (by omega), fun h => absurd h (by omega)⟩
theorem seen_hit {D : Int} {k j : Nat} (_ : Seen D k j) (c : 456 * p35 k ≤ D) : Seen D (k + 1) (k + 1) :=
  ⟨Nat.le_refl _, fun _ hs _ => hs, fun _ => c⟩
theorem seen_miss {D : Int} {k j : Nat} (h : Seen D k j) (c : D < 456 * p35 k) : Seen D (k + 1) j :=
  ⟨by have := h.1; omega, fun s hs hc => by
    by_cases e : s = k
    · subst e; omega
    · exact h.2.1 s (by omega) hc, h.2.2⟩
theorem seen_lvl {D : Int} {j : Nat} (h : D ≤ 9223372036854775807) (hs : Seen D 11 j) : Lvl D j := by
  refine ⟨fun t ht => ?_, ?_⟩
  · have h1 := hs.2.2 (by omega)
    have h2 := p35_mono (a := t) (b := j - 1) (by omega)
    omega
  · by_cases c : D < 456 * p35 j
    · exact c
    · have h10 := le10 (t := j) h (by omega)
      have := hs.2.1 j (by omega) (by omega)
      omega
end Go.Proofs.Qxb6601158a.Adapt
