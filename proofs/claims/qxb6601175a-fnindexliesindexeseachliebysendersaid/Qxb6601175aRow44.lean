/-
  The council's own lies: a row of nine cells each, filled one by one (Lr).
-/
import Derived.Test.Qxb6601175aClones
set_option linter.unusedVariables false
namespace Go.Proofs.Qxb6601175a.Idx
open Go.ChangeShapes Go.WideShapes Go.ChangeAt Go.RowKit

theorem info44 : (Try.prog.info? 44).map (fun i => (i.zero, i.size, i.bytes)) = some (some (.agg #[.slice none 0 0, .int .i64 0, .int .i64 0, .int .i64 0, .int .i64 0, .string ByteArray.empty, .bool false, .int .i64 0, .int .i64 0]), 9, 96) := by kernel_rfl

/-- zeros of a council.Lie -/
def zero44 : Array Value := #[.slice none 0 0, .int .i64 0, .int .i64 0, .int .i64 0, .int .i64 0, .string ByteArray.empty, .bool false, .int .i64 0, .int .i64 0]

theorem make44 (n : Nat) (hn : n ≤ 1048576) (W : World) : (Instr.makeSlice 38 (.int .i64 (n : Int)) (.int .i64 (n : Int))).run Try.prog W = .ok (.slice (some ⟨W.heap.size, 0, none⟩) n n) (W.alloc (.cells (madeCells zero44 (n * 9)) 44)) :=
  make_many 38 44 zero44 _ 9 96 Try.underlying38 info44 rfl n (by omega) (by omega) W

/-- k lies have been laid -/
def Lr (w wr : World) (n : Nat) (A : Nat → Option Addr) (C : Nat → Nat) (L : Nat → Lie) (k : Nat) : Prop :=
  ∃ g : Nat → Value, wr.rowIs w.heap.size 44 (n * 9) g ∧ (∀ i, i < k → ∀ c, c < 9 → g (i * 9 + c) = lieCell (.slice (A i) (L i).n (C i)) (L i) c) ∧ w.Since w.heap.size wr

theorem lr_start (w : World) (n : Nat) (A : Nat → Option Addr) (C : Nat → Nat) (L : Nat → Lie) : Lr w (w.alloc (.cells (madeCells zero44 (n * 9)) 44)) n A C L 0 := by
  obtain ⟨g, hg⟩ := made_row w zero44 (n * 9) 44
  exact ⟨g, hg, fun i hi => absurd hi (by omega), (World.Since.refl _ _).alloc (Nat.le_refl _) _⟩

theorem lr_step {w wr : World} {n : Nat} {A : Nat → Option Addr} {C : Nat → Nat} {L : Nat → Lie} {k : Nat} (h : Lr w wr n A C L k) (hk : k < n) (o : Obj) :
    Lr w (set9 (wr.alloc o) w.heap.size (k * 9) (lieCell (.slice (A k) (L k).n (C k)) (L k))) n A C L (k + 1) := by
  obtain ⟨g, hg, hc, hS⟩ := h
  refine ⟨fun j => if k * 9 ≤ j ∧ j < k * 9 + 9 then lieCell (.slice (A k) (L k).n (C k)) (L k) (j - k * 9) else g j, set9_row (hg.alloc o), ?_, set9_since (hS.alloc hS.size o) (Nat.le_refl _)⟩
  intro i hi c hc'
  by_cases e : i = k
  · subst e
    simp only
    rw [if_pos (by omega)]
    congr 1
    omega
  · simp only
    rw [if_neg (by omega)]
    exact hc i (by omega) c hc'

theorem Lr.lies {w wr : World} {n : Nat} {A : Nat → Option Addr} {C : Nat → Nat} {L : Nat → Lie} (h : Lr w wr n A C L n) : LiesIn wr w.heap.size 0 n (fun i => .slice (A i) (L i).n (C i)) L := by
  obtain ⟨g, hg, hc, hS⟩ := h
  intro i hi c hc'
  have hlt : i * 9 + c < n * 9 := by omega
  rw [Nat.zero_add, hg.cell hlt, hc i hi c hc']
end Go.Proofs.Qxb6601175a.Idx
