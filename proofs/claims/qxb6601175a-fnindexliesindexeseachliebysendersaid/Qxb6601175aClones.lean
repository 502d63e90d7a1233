/-
  The clones at whatever slice, nil or not; the copy of the lies (LC).
-/
import Derived.Test.Qxb6601175aIndex
set_option linter.unusedVariables false
namespace Go.Proofs.Qxb6601175a.Idx
open Go.ChangeShapes Go.WideShapes Go.ChangeAt Go.RowKit

theorem cstrs_any (A : Option Addr) (n c : Nat) (f : Nat → ByteArray) (w : World) (hn : n ≤ 1048576) (hc : StrsR w A n f) (h0 : A = none → n = 0) :
    Calls Try.prog 9 #[.slice A n c] w fun e w' => ∃ A' c', e = .returned (.slice A' n c') ∧ (A' = none ∨ ∃ b, A' = some ⟨b, 0, none⟩ ∧ w.heap.size ≤ b) ∧ StrsR w' A' n f ∧ w.Since w.heap.size w' := by
  cases A with
  | none =>
    obtain rfl := h0 rfl
    refine (cstrs_nil c w).mono ?_
    rintro e w' ⟨rfl, rfl⟩
    exact ⟨none, 0, rfl, .inl rfl, fun i hi => absurd hi (by omega), World.Since.refl _ _⟩
  | some a =>
    refine (cstrs_some a n c f w hn fun i hi => ?_).mono ?_
    · obtain ⟨b, off, e, hb⟩ := hc i hi
      exact ⟨b, off, Option.some.inj e, hb⟩
    · rintro e w' ⟨rfl, hr, hs, _⟩
      refine ⟨some ⟨w.heap.size, 0, none⟩, n, rfl, .inr ⟨_, rfl, Nat.le_refl _⟩, fun i hi => ⟨w.heap.size, 0, rfl, ?_⟩, hs⟩
      rw [Nat.zero_add]; exact hr.cell hi

theorem cints_any (A : Option Addr) (n c : Nat) (f : Nat → Int) (w : World) (hn : n ≤ 1048576) (hc : ∀ i, i < n → ∃ b off, A = some ⟨b, off, none⟩ ∧ w.cell? ⟨b, off + i, none⟩ = some (.int .i64 (f i))) (h0 : A = none → n = 0) :
    Calls Try.prog 10 #[.slice A n c] w fun e w' => ∃ A' c', e = .returned (.slice A' n c') ∧ w.Since w.heap.size w' := by
  cases A with
  | none =>
    obtain rfl := h0 rfl
    refine (cints_nil c w).mono ?_
    rintro e w' ⟨rfl, rfl⟩
    exact ⟨none, 0, rfl, World.Since.refl _ _⟩
  | some a =>
    refine (cints_some a n c f w hn fun i hi => ?_).mono ?_
    · obtain ⟨b, off, e, hb⟩ := hc i hi
      exact ⟨b, off, Option.some.inj e, hb⟩
    · rintro e w' ⟨rfl, hr, hs, _⟩
      exact ⟨_, n, rfl, hs⟩

theorem cpairs_any (A : Option Addr) (n c : Nat) (f : Nat → Int) (w : World) (hn : n ≤ 1048576) (hc : ∀ i, i < n → ∃ b off, A = some ⟨b, off, none⟩ ∧ w.cell? ⟨b, off + i * 2, none⟩ = some (.int .i64 (f (i * 2))) ∧ w.cell? ⟨b, off + i * 2 + 1, none⟩ = some (.int .i64 (f (i * 2 + 1)))) (h0 : A = none → n = 0) :
    Calls Try.prog 11 #[.slice A n c] w fun e w' => ∃ A' c', e = .returned (.slice A' n c') ∧ w.Since w.heap.size w' := by
  cases A with
  | none =>
    obtain rfl := h0 rfl
    refine (cpairs_nil c w).mono ?_
    rintro e w' ⟨rfl, rfl⟩
    exact ⟨none, 0, rfl, World.Since.refl _ _⟩
  | some a =>
    refine (cpairs_some a n c f w hn fun i hi => ?_).mono ?_
    · obtain ⟨b, off, e, hb⟩ := hc i hi
      exact ⟨b, off, Option.some.inj e, hb⟩
    · rintro e w' ⟨rfl, hs⟩
      exact ⟨_, n, rfl, hs⟩

/-- a copy of the lies, with copies of their paths, all in blocks behind B -/
def LC (B : Nat) (W : World) (a : Option Addr) (n : Nat) (A : Nat → Option Addr) (C : Nat → Nat) (L : Nat → Lie) : Prop :=
  (a = none ∧ n = 0) ∨ ∃ (b : Nat) (g : Nat → Value), a = some ⟨b, 0, none⟩ ∧ B ≤ b ∧ W.rowIs b 32 (n * 9) g
    ∧ (∀ i, i < n → ∀ c, c < 9 → g (i * 9 + c) = lieCell (.slice (A i) (L i).n (C i)) (L i) c) ∧ (∀ i, i < n → PathB B W (A i) (L i))

theorem PathB.since {B : Nat} {w w' : World} {A : Option Addr} {l : Lie} (h : PathB B w A l) (hs : w.Since w.heap.size w') : PathB B w' A l := by
  rcases h with h | ⟨b, e, hb, hr⟩
  · exact .inl h
  · exact .inr ⟨b, e, hb, rowS hr hs⟩

theorem PathB.setO {B : Nat} {w : World} {A : Option Addr} {l : Lie} (h : PathB B w A l) {a : Addr} (ha : a.block < B) (v : Value) : PathB B (w.setCell a v) A l := by
  rcases h with h | ⟨b, e, hb, hr⟩
  · exact .inl h
  · exact .inr ⟨b, e, hb, hr.setOther (by omega) v⟩

theorem LC.since {B : Nat} {W W' : World} {a : Option Addr} {n : Nat} {A : Nat → Option Addr} {C : Nat → Nat} {L : Nat → Lie} (h : LC B W a n A C L) (hs : W.Since W.heap.size W') : LC B W' a n A C L := by
  rcases h with h | ⟨b, g, e, hb, hr, hg, hp⟩
  · exact .inl h
  · exact .inr ⟨b, g, e, hb, rowS hr hs, hg, fun i hi => (hp i hi).since hs⟩

theorem LC.setO {B : Nat} {W : World} {a : Option Addr} {n : Nat} {A : Nat → Option Addr} {C : Nat → Nat} {L : Nat → Lie} (h : LC B W a n A C L) {x : Addr} (ha : x.block < B) (v : Value) : LC B (W.setCell x v) a n A C L := by
  rcases h with h | ⟨b, g, e, hb, hr, hg, hp⟩
  · exact .inl h
  · exact .inr ⟨b, g, e, hb, hr.setOther (by omega) v, hg, fun i hi => (hp i hi).setO ha v⟩

theorem LC.lies {B : Nat} {W : World} {a : Option Addr} {n : Nat} {A : Nat → Option Addr} {C : Nat → Nat} {L : Nat → Lie} (h : LC B W a n A C L) (h0 : 0 < n) : ∃ b, a = some ⟨b, 0, none⟩ ∧ LiesIn W b 0 n (fun i => .slice (A i) (L i).n (C i)) L := by
  rcases h with ⟨_, h⟩ | ⟨b, g, e, hb, hr, hg, hp⟩
  · omega
  · refine ⟨b, e, fun i hi c hc => ?_⟩
    have hlt : i * 9 + c < n * 9 := by omega
    rw [Nat.zero_add, hr.cell hlt, hg i hi c hc]

theorem LC.path {B : Nat} {W : World} {a : Option Addr} {n : Nat} {A : Nat → Option Addr} {C : Nat → Nat} {L : Nat → Lie} (h : LC B W a n A C L) : ∀ i, i < n → PathR W (A i) (L i) := by
  intro i hi
  rcases h with ⟨_, h⟩ | ⟨b, g, e, hb, hr, hg, hp⟩
  · omega
  · exact (hp i hi).path

theorem clies_any (a : Option Addr) (n c : Nat) (A : Nat → Option Addr) (C : Nat → Nat) (L : Nat → Lie) (w : World) (hn : n ≤ 1048576) (hl : ∀ i, i < n → (L i).n ≤ 1048576)
    (hL : 0 < n → ∃ b off, a = some ⟨b, off, none⟩ ∧ LiesIn w b off n (fun i => .slice (A i) (L i).n (C i)) L) (hP : ∀ i, i < n → PathR w (A i) (L i)) (h0 : a = none → n = 0) :
    Calls Try.prog 12 #[.slice a n c] w fun e w' => ∃ a' c' A' C', e = .returned (.slice a' n c') ∧ LC w.heap.size w' a' n A' C' L ∧ w.Since w.heap.size w' := by
  cases a with
  | none =>
    obtain rfl := h0 rfl
    refine (clies_nil c w).mono ?_
    rintro e w' ⟨rfl, rfl⟩
    exact ⟨none, 0, A, C, rfl, .inl ⟨rfl, rfl⟩, World.Since.refl _ _⟩
  | some a =>
    refine (clies_some a n c A C L w hn hl (fun h => ?_) hP).mono ?_
    · obtain ⟨b, off, e, hb⟩ := hL h
      exact ⟨b, off, Option.some.inj e, hb⟩
    · rintro e w' ⟨rfl, g, A', C', hr, hg, hp, hs⟩
      exact ⟨_, n, A', C', rfl, .inr ⟨w.heap.size, g, rfl, Nat.le_refl _, hr, hg, hp⟩, hs⟩
end Go.Proofs.Qxb6601175a.Idx
