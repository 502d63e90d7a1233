/-
  slices.Index and zzFirstIndex: the first place of a string.
-/
import Derived.Test.Qxb6601175aCloneLies
namespace Go.Proofs.Qxb6601175a.Idx
open Go.ChangeShapes Go.WideShapes Go.ChangeAt Go.RowKit

theorem ret_int {k : IntKind} {a b : Int} (h : a = b) : Ending.returned (.int k a) = .returned (.int k b) := by rw [h]

/-- the first place of x among s 0 .. s (n - 1); -1 where there is none -/
def fidx (s : Nat → ByteArray) (x : ByteArray) : Nat → Int
  | 0 => -1
  | n + 1 => if fidx s x n = -1 then (if x.toList == (s n).toList then (n : Int) else -1) else fidx s x n

theorem fidx_hit {s : Nat → ByteArray} {x : ByteArray} {k : Nat} (h : fidx s x k = -1) (c : (x.toList == (s k).toList) = true) : fidx s x (k + 1) = k := by
  simp only [fidx, h, c, if_true]
theorem fidx_miss {s : Nat → ByteArray} {x : ByteArray} {k : Nat} (h : fidx s x k = -1) (c : (x.toList == (s k).toList) = false) : fidx s x (k + 1) = -1 := by
  simp only [fidx, h, c, if_true, Bool.false_eq_true, if_false]
theorem fidx_stays {s : Nat → ByteArray} {x : ByteArray} {k : Nat} {r : Int} (h : fidx s x k = r) (hr : r ≠ -1) : ∀ n, k ≤ n → fidx s x n = r := by
  intro n
  induction n with
  | zero => intro hk; obtain rfl : k = 0 := by omega
            exact h
  | succ n ih =>
    intro hk
    by_cases e : k = n + 1
    · subst e; exact h
    · have := ih (by omega)
      simp only [fidx, this]
      rw [if_neg hr]
theorem fidx_end {s : Nat → ByteArray} {x : ByteArray} {k n : Nat} (h : fidx s x k = -1) (c : (x.toList == (s k).toList) = true) (hk : k < n) : (k : Int) = fidx s x n :=
  (fidx_stays (fidx_hit h c) (by omega) n (by omega)).symm

theorem fidx_bd (s : Nat → ByteArray) (x : ByteArray) : ∀ n, -1 ≤ fidx s x n ∧ fidx s x n < n := by
  intro n
  induction n with
  | zero => simp [fidx]
  | succ n ih =>
    simp only [fidx]
    split
    · split <;> omega
    · omega

/-- a slice of strings that can be read in w -/
def StrsR (w : World) (O : Option Addr) (n : Nat) (s : Nat → ByteArray) : Prop :=
  ∀ i, i < n → ∃ b off, O = some ⟨b, off, none⟩ ∧ w.cell? ⟨b, off + i, none⟩ = some (.string (s i))

theorem StrsR.since {w w' : World} {O : Option Addr} {n : Nat} {s : Nat → ByteArray} {B : Nat} (h : StrsR w O n s) (hs : w.Since B w') (hB : w.heap.size ≤ B) : StrsR w' O n s := fun i hi => by
  obtain ⟨b, off, e, hc⟩ := h i hi
  have hb : b < w.heap.size := World.block_lt_of_cell? w _ hc
  exact ⟨b, off, e, (hs.cell (a := ⟨b, off + i, none⟩) (by show b < B; omega)).trans hc⟩

set_option maxRecDepth 100000 in
set_option maxHeartbeats 400000 in
/-- slices.Index -/
theorem index_any (O : Option Addr) (n c : Nat) (s : Nat → ByteArray) (x : ByteArray) (w : World) (hn : n ≤ 1048576) (hO : StrsR w O n s) :
    Calls Try.prog 44 #[.slice O n c, .string x] w fun e w' => e = .returned (.int .i64 (fidx s x n)) ∧ w' = w := by
  have HO : Hid (StrsR w O n s) := hO
  clear hO
  go_enter Try.func44, Try.ntmps44
  go_wp2
  go_loop [8, 5] (fun i _ => ∃ k : Nat, k ≤ n ∧ i = .int .i64 k ∧ Hid (fidx s x k = -1)) (fun i _ => n - (intOf i).toNat)
  case atStart => exact ⟨0, Nat.zero_le _, rfl, rfl⟩
  case round =>
    obtain ⟨k, hk, rfl, HF⟩ := hrel
    by_cases hlt : k < n
    · obtain ⟨b, off, rfl, hc⟩ := HO.out k hlt
      cases ht : (x.toList == (s k).toList)
      · go_wp2
        go_round
        case rel => exact ⟨k + 1, by omega, by go_num, fidx_miss HF.out ht⟩
        case measure => simp [intOf]; omega
      · go_wp2
        go_ret
        exact ⟨ret_int (fidx_end HF.out ht hlt), rfl⟩
    · obtain rfl : k = n := by omega
      go_wp2
      go_ret
      exact ⟨ret_int HF.out.symm, rfl⟩

set_option maxRecDepth 100000 in
set_option maxHeartbeats 400000 in
/-- zzFirstIndex -/
theorem first_any (O : Option Addr) (n c : Nat) (s : Nat → ByteArray) (x : ByteArray) (w : World) (hn : n ≤ 1048576) (hO : StrsR w O n s) :
    Calls Try.prog 15 #[.slice O n c, .string x] w fun e w' => e = .returned (.int .i64 (fidx s x n)) ∧ w' = w := by
  have HO : Hid (StrsR w O n s) := hO
  clear hO
  go_enter Try.func15, Try.ntmps15
  go_wp2
  go_loop [5] (fun i => ∃ k : Nat, k ≤ n ∧ i = .int .i64 k ∧ Hid (fidx s x k = -1)) (fun i => n - (intOf i).toNat)
  case atStart => exact ⟨0, Nat.zero_le _, rfl, rfl⟩
  case round =>
    obtain ⟨k, hk, rfl, HF⟩ := hrel
    by_cases hlt : k < n
    · obtain ⟨b, off, rfl, hc⟩ := HO.out k hlt
      cases ht : ((s k).toList == x.toList)
      · go_wp2
        go_round
        case rel => exact ⟨k + 1, by omega, by go_num, fidx_miss HF.out (by rw [Bool.beq_comm]; exact ht)⟩
        case measure => simp [intOf]; omega
      · go_wp2
        go_ret
        exact ⟨ret_int (fidx_end HF.out (by rw [Bool.beq_comm]; exact ht) hlt), rfl⟩
    · obtain rfl : k = n := by omega
      go_wp2
      go_ret
      exact ⟨ret_int HF.out.symm, rfl⟩
end Go.Proofs.Qxb6601175a.Idx
