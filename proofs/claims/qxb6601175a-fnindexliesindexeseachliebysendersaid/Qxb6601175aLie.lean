/-
  A lie as plain data; its nine cells; its path in memory; worlds.
-/
import Derived.Test.Qxb6601175aClone
namespace Go.Proofs.Qxb6601175a.Idx
open Go.RowKit

/-- a lie, its path's slice header left out -/
structure Lie where
  n : Nat
  f : Nat → Int
  dest : Int
  h0 : Int
  h1 : Int
  fr : Int
  od : ByteArray
  si : Bool
  st : Int
  sd : Int

/-- its nine cells (LieIn and council.Lie alike), the path's value handed in -/
def lieCell (p : Value) (l : Lie) : Nat → Value
  | 0 => p
  | 1 => .int .i64 l.dest
  | 2 => .int .i64 l.h0
  | 3 => .int .i64 l.h1
  | 4 => .int .i64 l.fr
  | 5 => .string l.od
  | 6 => .bool l.si
  | 7 => .int .i64 l.st
  | _ => .int .i64 l.sd

/-- the path's cells lie in w -/
def PathR (w : World) (A : Option Addr) (l : Lie) : Prop :=
  (A = none → l.n = 0) ∧ ∀ a, A = some a → ∀ j, j < l.n → ∃ b off, a = ⟨b, off, none⟩ ∧ w.cell? ⟨b, off + j, none⟩ = some (.int .i64 (l.f j))

theorem PathR.since {w w' : World} {A : Option Addr} {l : Lie} {B : Nat} (h : PathR w A l) (hs : w.Since B w') (hB : w.heap.size ≤ B) : PathR w' A l := by
  refine ⟨h.1, fun a ha j hj => ?_⟩
  obtain ⟨b, off, e, hc⟩ := h.2 a ha j hj
  have hb : b < w.heap.size := World.block_lt_of_cell? w _ hc
  exact ⟨b, off, e, (hs.cell (a := ⟨b, off + j, none⟩) (by show b < B; omega)).trans hc⟩

/-- n lies from offset off of block b on -/
def LiesIn (w : World) (b off n : Nat) (P : Nat → Value) (L : Nat → Lie) : Prop :=
  ∀ i, i < n → ∀ c, c < 9 → w.cell? ⟨b, off + i * 9 + c, none⟩ = some (lieCell (P i) (L i) c)

theorem LiesIn.since {w w' : World} {b off n B : Nat} {P : Nat → Value} {L : Nat → Lie} (h : LiesIn w b off n P L) (hs : w.Since B w') (hb : b < B) : LiesIn w' b off n P L :=
  fun i hi c hc => (hs.cell (a := ⟨b, off + i * 9 + c, none⟩) hb).trans (h i hi c hc)

/-- the nine cells of lie k, as the walk asks for them -/
theorem LiesIn.nine {w : World} {b off n : Nat} {P : Nat → Value} {L : Nat → Lie} (h : LiesIn w b off n P L) {k : Nat} (hk : k < n) :
    w.cell? ⟨b, off + k * 9, none⟩ = some (P k) ∧ w.cell? ⟨b, off + k * 9 + 1, none⟩ = some (.int .i64 (L k).dest) ∧ w.cell? ⟨b, off + k * 9 + 2, none⟩ = some (.int .i64 (L k).h0)
    ∧ w.cell? ⟨b, off + k * 9 + 3, none⟩ = some (.int .i64 (L k).h1) ∧ w.cell? ⟨b, off + k * 9 + 4, none⟩ = some (.int .i64 (L k).fr) ∧ w.cell? ⟨b, off + k * 9 + 5, none⟩ = some (.string (L k).od)
    ∧ w.cell? ⟨b, off + k * 9 + 6, none⟩ = some (.bool (L k).si) ∧ w.cell? ⟨b, off + k * 9 + 7, none⟩ = some (.int .i64 (L k).st) ∧ w.cell? ⟨b, off + k * 9 + 8, none⟩ = some (.int .i64 (L k).sd) :=
  ⟨h k hk 0 (by omega), h k hk 1 (by omega), h k hk 2 (by omega), h k hk 3 (by omega), h k hk 4 (by omega), h k hk 5 (by omega), h k hk 6 (by omega), h k hk 7 (by omega), h k hk 8 (by omega)⟩

/-- .. and where the block is told from its head -/
theorem LiesIn.nine0 {w : World} {b n : Nat} {P : Nat → Value} {L : Nat → Lie} (h : LiesIn w b 0 n P L) {k : Nat} (hk : k < n) :
    w.cell? ⟨b, k * 9, none⟩ = some (P k) ∧ w.cell? ⟨b, k * 9 + 1, none⟩ = some (.int .i64 (L k).dest) ∧ w.cell? ⟨b, k * 9 + 2, none⟩ = some (.int .i64 (L k).h0)
    ∧ w.cell? ⟨b, k * 9 + 3, none⟩ = some (.int .i64 (L k).h1) ∧ w.cell? ⟨b, k * 9 + 4, none⟩ = some (.int .i64 (L k).fr) ∧ w.cell? ⟨b, k * 9 + 5, none⟩ = some (.string (L k).od)
    ∧ w.cell? ⟨b, k * 9 + 6, none⟩ = some (.bool (L k).si) ∧ w.cell? ⟨b, k * 9 + 7, none⟩ = some (.int .i64 (L k).st) ∧ w.cell? ⟨b, k * 9 + 8, none⟩ = some (.int .i64 (L k).sd) := by
  have := h.nine hk
  simpa only [Nat.zero_add] using this

/-- nine cells written into a row from offset o on -/
def set9 (w : World) (b o : Nat) (g : Nat → Value) : World :=
  ((((((((w.setCell ⟨b, o, none⟩ (g 0)).setCell ⟨b, o + 1, none⟩ (g 1)).setCell ⟨b, o + 2, none⟩ (g 2)).setCell ⟨b, o + 3, none⟩ (g 3)).setCell ⟨b, o + 4, none⟩ (g 4)).setCell ⟨b, o + 5, none⟩ (g 5)).setCell ⟨b, o + 6, none⟩ (g 6)).setCell ⟨b, o + 7, none⟩ (g 7)).setCell ⟨b, o + 8, none⟩ (g 8)

theorem set9_row {w : World} {b t n o : Nat} {f g : Nat → Value} (h : w.rowIs b t n f) : (set9 w b o g).rowIs b t n (fun j => if o ≤ j ∧ j < o + 9 then g (j - o) else f j) := by
  unfold set9
  refine (((((((((h.set _ _).set _ _).set _ _).set _ _).set _ _).set _ _).set _ _).set _ _).set _ _).congr fun i _ => ?_
  by_cases c : o ≤ i ∧ i < o + 9
  · rw [if_pos c]
    have hc : i = o ∨ i = o + 1 ∨ i = o + 2 ∨ i = o + 3 ∨ i = o + 4 ∨ i = o + 5 ∨ i = o + 6 ∨ i = o + 7 ∨ i = o + 8 := by omega
    rcases hc with rfl | rfl | rfl | rfl | rfl | rfl | rfl | rfl | rfl <;> simp <;> congr 1 <;> omega
  · rw [if_neg c, if_neg (by omega), if_neg (by omega), if_neg (by omega), if_neg (by omega), if_neg (by omega), if_neg (by omega), if_neg (by omega), if_neg (by omega), if_neg (by omega)]

theorem set9_since {w0 w : World} {B b o : Nat} {g : Nat → Value} (h : w0.Since B w) (hb : B ≤ b) : w0.Since B (set9 w b o g) :=
  ((((((((h.setCell hb _).setCell hb _).setCell hb _).setCell hb _).setCell hb _).setCell hb _).setCell hb _).setCell hb _).setCell hb _

theorem set9_other {w : World} {b b' t n o : Nat} {f g : Nat → Value} (h : w.rowIs b' t n f) (hne : b' ≠ b) : (set9 w b o g).rowIs b' t n f :=
  ((((((((h.setOther hne _).setOther hne _).setOther hne _).setOther hne _).setOther hne _).setOther hne _).setOther hne _).setOther hne _).setOther hne _

theorem size_setCell (w : World) (a : Addr) (v : Value) : (w.setCell a v).heap.size = w.heap.size := by simp [World.setCell]
theorem set9_size (w : World) (b o : Nat) (g : Nat → Value) : (set9 w b o g).heap.size = w.heap.size := by
  unfold set9; simp only [size_setCell]
end Go.Proofs.Qxb6601175a.Idx
