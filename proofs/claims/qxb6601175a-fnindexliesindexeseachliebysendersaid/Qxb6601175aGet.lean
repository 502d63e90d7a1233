/-
  The law's readers, zzSamePath: walks.
-/
import Derived.Test.Qxb6601175aFirst
import Derived.Deep.QuietTactic
import Derived.BigQuiet
set_option linter.unusedVariables false
namespace Go.Proofs.Qxb6601175a.Idx
open Go.ChangeShapes Go.WideShapes Go.ChangeAt Go.RowKit

theorem get14 (a b c d : Option Addr) (n n' m m' k k' l l' : Nat) (w : World) :
    Calls Try.prog 14 #[.agg #[.slice a n n', .slice b m m', .slice c k k', .slice d l l']] w fun e w' => e = .returned (.slice a n n') ∧ w.Since w.heap.size w' := by
  go_enter Try.func14, Try.ntmps14
  go_wp2
  go_ret
  exact ⟨rfl, (World.Since.refl _ _).alloc (Nat.le_refl _) _⟩
theorem get19 (a b c d : Option Addr) (n n' m m' k k' l l' : Nat) (w : World) :
    Calls Try.prog 19 #[.agg #[.slice a n n', .slice b m m', .slice c k k', .slice d l l']] w fun e w' => e = .returned (.slice d l l') ∧ w.Since w.heap.size w' := by
  go_enter Try.func19, Try.ntmps19
  go_wp2
  go_ret
  exact ⟨rfl, (World.Since.refl _ _).alloc (Nat.le_refl _) _⟩
theorem get20 (a b c d : Option Addr) (n n' m m' k k' l l' : Nat) (w : World) :
    Calls Try.prog 20 #[.agg #[.slice a n n', .slice b m m', .slice c k k', .slice d l l']] w fun e w' => e = .returned (.slice b m m') ∧ w.Since w.heap.size w' := by
  go_enter Try.func20, Try.ntmps20
  go_wp2
  go_ret
  exact ⟨rfl, (World.Since.refl _ _).alloc (Nat.le_refl _) _⟩
theorem get21 (a b c d : Option Addr) (n n' m m' k k' l l' : Nat) (w : World) :
    Calls Try.prog 21 #[.agg #[.slice a n n', .slice b m m', .slice c k k', .slice d l l']] w fun e w' => e = .returned (.slice c k k') ∧ w.Since w.heap.size w' := by
  go_enter Try.func21, Try.ntmps21
  go_wp2
  go_ret
  exact ⟨rfl, (World.Since.refl _ _).alloc (Nat.le_refl _) _⟩
theorem get16 (o st no sd : Int) (si : Bool) (w : World) :
    Calls Try.prog 16 #[.agg #[.int .i64 o, .bool si, .int .i64 st, .int .i64 no, .int .u64 sd]] w fun e w' => e = .returned (.int .i64 st) ∧ w.Since w.heap.size w' := by
  go_enter Try.func16, Try.ntmps16
  go_wp2
  go_ret
  exact ⟨rfl, (World.Since.refl _ _).alloc (Nat.le_refl _) _⟩
theorem get17 (o st no sd : Int) (si : Bool) (w : World) :
    Calls Try.prog 17 #[.agg #[.int .i64 o, .bool si, .int .i64 st, .int .i64 no, .int .u64 sd]] w fun e w' => e = .returned (.int .i64 no) ∧ w.Since w.heap.size w' := by
  go_enter Try.func17, Try.ntmps17
  go_wp2
  go_ret
  exact ⟨rfl, (World.Since.refl _ _).alloc (Nat.le_refl _) _⟩
theorem get18 (o st no sd : Int) (si : Bool) (w : World) :
    Calls Try.prog 18 #[.agg #[.int .i64 o, .bool si, .int .i64 st, .int .i64 no, .int .u64 sd]] w fun e w' => e = .returned (.int .u64 sd) ∧ w.Since w.heap.size w' := by
  go_enter Try.func18, Try.ntmps18
  go_wp2
  go_ret
  exact ⟨rfl, (World.Since.refl _ _).alloc (Nat.le_refl _) _⟩

theorem nil39 (W : World) (a : Option Addr) (n c : Nat) : (binOp .eql 39 (.slice a n c) (.slice none 0 0)).run Try.prog W = .ok (.bool a.isNone) W := Lib.run_eql_slice_nil W 39 3 a n c 0 0 Try.underlying39
attribute [local go_sem] nil39 nil23

theorem sinceN {a b : World} {B : Nat} (n : Nat) (h : a.Since B b) : a.Since B (b.drewN n) := ⟨h.os, h.tape, h.output, h.size, h.block⟩

set_option maxRecDepth 100000 in
set_option maxHeartbeats 1000000 in
/-- zzSamePath at one and the same path -/
theorem same_any (A : Option Addr) (C : Nat) (l : Lie) (w : World) (hn : l.n ≤ 1048576) (h : PathR w A l) :
    Calls Try.prog 22 #[.slice A l.n C, .slice A l.n C] w fun e w' => e = .returned (.bool true) ∧ w.Since w.heap.size w' := by
  have H : Hid (PathR w A l) := h
  clear h
  have hne : ((l.n : Int) != (l.n : Int)) = false := by simp
  cases A with
  | none =>
    have h0 : l.n = 0 := H.out.1 rfl
    have h0' : (l.n : Int) ≤ 0 := by omega
    go_enter Try.func22, Try.ntmps22
    go_wp2
    go_loopw [5] (fun i wr => ∃ k : Nat, k ≤ l.n ∧ i = .int .i64 k ∧ w.Since w.heap.size wr) (fun i _ => l.n - (intOf i).toNat)
    case atStart => exact ⟨0, Nat.zero_le _, rfl, World.Since.refl _ _⟩
    case round =>
      obtain ⟨k, hk, rfl, hs⟩ := hrel
      have HS : Hid (w.Since w.heap.size wr) := hs
      clear hs
      go_wp2
      go_ret
      exact ⟨rfl, HS.out⟩
  | some a =>
    go_enter Try.func22, Try.ntmps22
    go_wp2
    go_loopw [5] (fun i wr => ∃ k : Nat, k ≤ l.n ∧ i = .int .i64 k ∧ w.Since w.heap.size wr) (fun i _ => l.n - (intOf i).toNat)
    case atStart => exact ⟨0, Nat.zero_le _, rfl, World.Since.refl _ _⟩
    case round =>
      obtain ⟨k, hk, rfl, hs⟩ := hrel
      have HS : Hid (w.Since w.heap.size wr) := hs
      by_cases hlt : k < l.n
      · obtain ⟨b, off, rfl, hc⟩ := H.out.2 a rfl k hlt
        have hb : b < w.heap.size := World.block_lt_of_cell? w _ hc
        have hc' : wr.cell? ⟨b, off + k, none⟩ = some (.int .i64 (l.f k)) := (hs.cell (by exact hb)).trans hc
        have hk1 : (0 : Int) ≤ (k : Int) := by omega
        have hk2 : (k : Int) < (l.n : Int) := by omega
        clear hs hc
        go_wp2
        go_quiet (fail)
        go_wp2
        go_roundw
        case rel => exact ⟨k + 1, by omega, by go_num, sinceN _ HS.out⟩
        case measure => simp [intOf]; omega
      · clear hs
        go_wp2
        go_ret
        exact ⟨rfl, HS.out⟩
end Go.Proofs.Qxb6601175a.Idx
