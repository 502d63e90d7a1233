/-
  The clones of a slice of strings, of ints: walks.
-/
import Derived.Test.Qxb6601175aRows
import Derived.WalkKit
import Derived.ProofKit
import Derived.OpenShut
import Derived.Deep.OwnRows
import Derived.WalkSpells
namespace Go.Proofs.Qxb6601175a.Idx
open Go.ChangeShapes Go.WideShapes Go.ChangeAt Go.RowKit

theorem info9 : (Try.prog.info? 9).map (fun i => (i.zero, i.size, i.bytes)) = some (some (.string ByteArray.empty), 1, 16) := by kernel_rfl
theorem info3 : (Try.prog.info? 3).map (fun i => (i.zero, i.size, i.bytes)) = some (some (.int .i64 0), 1, 8) := by kernel_rfl

/-- a row that is filled from its head: behind k rounds -/
def fill (g : Nat → Value) (z : Value) (k i : Nat) : Value := if i < k then g i else z

theorem fill_zero (g : Nat → Value) (z : Value) : fill g z 0 = fun _ => z := by
  funext i; unfold fill; rw [if_neg (by omega)]
theorem fill_step (g : Nat → Value) (z : Value) (k : Nat) : (fun j => if j = k then g k else fill g z k j) = fill g z (k + 1) := by
  funext j
  unfold fill
  by_cases e : j = k
  · subst e; rw [if_pos rfl, if_pos (by omega)]
  · rw [if_neg e]
    by_cases c : j < k
    · rw [if_pos c, if_pos (by omega)]
    · rw [if_neg c, if_neg (by omega)]

/-- a new row, k cells of it filled -/
def Row (w wr : World) (t n : Nat) (g : Nat → Value) (z : Value) (k : Nat) : Prop :=
  wr.rowIs w.heap.size t n (fill g z k) ∧ w.Since w.heap.size wr ∧ wr.heap.size = w.heap.size + 1

theorem row_start (w : World) (t n : Nat) (g : Nat → Value) (z : Value) : Row w (w.alloc (.cells (madeCells #[z] n) t)) t n g z 0 := by
  refine ⟨?_, (World.Since.refl _ _).alloc (Nat.le_refl _) _, by simp⟩
  rw [fill_zero]
  exact World.rowIs_made w z n t

theorem row_step {w wr : World} {t n : Nat} {g : Nat → Value} {z : Value} {k : Nat} (h : Row w wr t n g z k) : Row w (wr.setCell ⟨w.heap.size, k, none⟩ (g k)) t n g z (k + 1) := by
  obtain ⟨h1, h2, h3⟩ := h
  refine ⟨?_, h2.setCell (Nat.le_refl _) _, by simpa [World.setCell] using h3⟩
  rw [← fill_step]
  exact h1.set k (g k)

theorem row_done {w wr : World} {t n : Nat} {g : Nat → Value} {z : Value} (h : Row w wr t n g z n) : wr.rowIs w.heap.size t n g ∧ w.Since w.heap.size wr ∧ wr.heap.size = w.heap.size + 1 :=
  ⟨h.1.congr fun i hi => by unfold fill; rw [if_pos hi], h.2⟩

theorem nil23 (W : World) (a : Option Addr) (n c : Nat) : (binOp .eql 23 (.slice a n c) (.slice none 0 0)).run Try.prog W = .ok (.bool a.isNone) W := Lib.run_eql_slice_nil W 23 3 a n c 0 0 Try.underlying23
theorem nil22 (W : World) (a : Option Addr) (n c : Nat) : (binOp .eql 22 (.slice a n c) (.slice none 0 0)).run Try.prog W = .ok (.bool a.isNone) W := Lib.run_eql_slice_nil W 22 9 a n c 0 0 Try.underlying22
attribute [local go_sem] nil23 nil22

set_option maxRecDepth 100000 in
set_option maxHeartbeats 400000 in
/-- zzCloneInts: nil -/
theorem cints_nil (c : Nat) (w : World) :
    Calls Try.prog 10 #[.slice none 0 c] w fun e w' => e = .returned (.slice none 0 0) ∧ w' = w := by
  go_enter Try.func10, Try.ntmps10
  go_wp2
  go_ret
  exact ⟨rfl, rfl⟩

set_option maxRecDepth 100000 in
set_option maxHeartbeats 400000 in
/-- zzCloneInts: not nil -/
theorem cints_some (a : Addr) (n c : Nat) (f : Nat → Int) (w : World) (hn : n ≤ 1048576) (hc : ∀ i, i < n → ∃ b off, a = ⟨b, off, none⟩ ∧ w.cell? ⟨b, off + i, none⟩ = some (.int .i64 (f i))) :
    Calls Try.prog 10 #[.slice (some a) n c] w fun e w' => e = .returned (.slice (some ⟨w.heap.size, 0, none⟩) n n) ∧ w'.rowIs w.heap.size 3 n (fun i => .int .i64 (f i)) ∧ w.Since w.heap.size w' ∧ w'.heap.size = w.heap.size + 1 := by
  have hmk := fun W => run_make_row' (P := Try.prog) 23 3 (.int .i64 0) 8 Try.underlying23 info3 rfl .i64 .i64 n (by omega) (by omega) W
  go_enter Try.func10, Try.ntmps10
  go_wp2
  go_loopw [4] (fun i wr => ∃ k : Nat, k ≤ n ∧ i = .int .i64 k ∧ Row w wr 3 n (fun i => .int .i64 (f i)) (.int .i64 0) k) (fun i _ => n - (intOf i).toNat)
  case atStart => exact ⟨0, Nat.zero_le _, rfl, row_start w 3 n _ _⟩
  case round =>
    obtain ⟨k, hk, rfl, hR⟩ := hrel
    by_cases hlt : k < n
    · obtain ⟨b, off, rfl, hck⟩ := hc k hlt
      have hb : b < w.heap.size := World.block_lt_of_cell? w _ hck
      have hck' : wr.cell? ⟨b, off + k, none⟩ = some (.int .i64 (f k)) := (hR.2.1.cell (by exact hb)).trans hck
      have hdk := hR.1.cell hlt
      have hfk := hR.1.frozen k
      have HR : Hid (Row w wr 3 n (fun i => .int .i64 (f i)) (.int .i64 0) k) := hR
      clear hR hc hck
      go_wp2
      go_roundw
      case rel => exact ⟨k + 1, by omega, by go_num, row_step HR.out⟩
      case measure => simp [intOf]; omega
    · obtain rfl : k = n := by omega
      have HD := row_done hR
      clear hR
      go_wp2
      go_ret
      exact ⟨rfl, HD⟩
set_option maxRecDepth 100000 in
set_option maxHeartbeats 400000 in
/-- zzCloneStrings: nil -/
theorem cstrs_nil (c : Nat) (w : World) :
    Calls Try.prog 9 #[.slice none 0 c] w fun e w' => e = .returned (.slice none 0 0) ∧ w' = w := by
  go_enter Try.func9, Try.ntmps9
  go_wp2
  go_ret
  exact ⟨rfl, rfl⟩

set_option maxRecDepth 100000 in
set_option maxHeartbeats 400000 in
/-- zzCloneStrings: not nil -/
theorem cstrs_some (a : Addr) (n c : Nat) (f : Nat → ByteArray) (w : World) (hn : n ≤ 1048576) (hc : ∀ i, i < n → ∃ b off, a = ⟨b, off, none⟩ ∧ w.cell? ⟨b, off + i, none⟩ = some (.string (f i))) :
    Calls Try.prog 9 #[.slice (some a) n c] w fun e w' => e = .returned (.slice (some ⟨w.heap.size, 0, none⟩) n n) ∧ w'.rowIs w.heap.size 9 n (fun i => .string (f i)) ∧ w.Since w.heap.size w' ∧ w'.heap.size = w.heap.size + 1 := by
  have hmk := fun W => run_make_row' (P := Try.prog) 22 9 (.string ByteArray.empty) 16 Try.underlying22 info9 rfl .i64 .i64 n (by omega) (by omega) W
  go_enter Try.func9, Try.ntmps9
  go_wp2
  go_loopw [4] (fun i wr => ∃ k : Nat, k ≤ n ∧ i = .int .i64 k ∧ Row w wr 9 n (fun i => .string (f i)) (.string ByteArray.empty) k) (fun i _ => n - (intOf i).toNat)
  case atStart => exact ⟨0, Nat.zero_le _, rfl, row_start w 9 n _ _⟩
  case round =>
    obtain ⟨k, hk, rfl, hR⟩ := hrel
    by_cases hlt : k < n
    · obtain ⟨b, off, rfl, hck⟩ := hc k hlt
      have hb : b < w.heap.size := World.block_lt_of_cell? w _ hck
      have hck' : wr.cell? ⟨b, off + k, none⟩ = some (.string (f k)) := (hR.2.1.cell (by exact hb)).trans hck
      have hdk := hR.1.cell hlt
      have hfk := hR.1.frozen k
      have HR : Hid (Row w wr 9 n (fun i => .string (f i)) (.string ByteArray.empty) k) := hR
      clear hR hc hck
      go_wp2
      go_roundw
      case rel => exact ⟨k + 1, by omega, by go_num, row_step HR.out⟩
      case measure => simp [intOf]; omega
    · obtain rfl : k = n := by omega
      have HD := row_done hR
      clear hR
      go_wp2
      go_ret
      exact ⟨rfl, HD⟩
end Go.Proofs.Qxb6601175a.Idx
