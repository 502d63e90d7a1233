/-
  told: the walk.
-/
import Derived.Test.Qxb6601175aFirst
import Derived.Deep.RegionHeld3
import Derived.Deep.DrawnRows
namespace Go.Proofs.Qxb6601175a.Idx
open Go.ChangeShapes Go.WideShapes Go.ChangeAt Go.RowKit
attribute [local go_sem] Go.wp_at_zero Go.wp_at_succ

set_option maxRecDepth 100000 in
set_option maxHeartbeats 2000000 in
theorem told_any (A : Option Addr) (N C : Nat) (dest h0 h1 fr : Int) (od : ByteArray) (si : Bool) (st sd : Int) (O : Option Addr) (no co : Nat) (s : Nat → ByteArray) (w : World) (hno : no ≤ 1048576) (hO : StrsR w O no s) :
    Calls Try.prog 41 #[.agg #[.slice A N C, .int .i64 dest, .int .i64 h0, .int .i64 h1, .int .i64 fr, .string od, .bool si, .int .i64 st, .int .i64 sd], .slice O no co] w fun e w' =>
      e = .returned (.agg #[.int .i64 (fidx s od no), .bool si, .int .i64 st, .int .i64 no, .int .u64 (IntKind.u64.wrap sd)]) ∧ w.Since w.heap.size w' := by
  have HC : Hid (∀ W, w.Since w.heap.size W → Calls Try.prog 44 #[.slice O no co, .string od] W fun e w' => e = .returned (.int .i64 (fidx s od no)) ∧ w' = W) :=
    fun W hW => index_any O no co s od W hno (hO.since hW (Nat.le_refl _))
  clear hO
  go_enter Try.func41, Try.ntmps41
  go_wp2_with fail
  go_region_held3 (fun w' => w'.cell? ⟨w.heap.size, 5, none⟩ = some (.string od) ∧ w'.cell? ⟨w.heap.size, 6, none⟩ = some (.bool si) ∧ w'.cell? ⟨w.heap.size, 7, none⟩ = some (.int .i64 st) ∧ w'.cell? ⟨w.heap.size, 8, none⟩ = some (.int .i64 sd))
    (go_keep) ((go_at_call 44; refine (HC.out _ (((World.Since.refl _ _).alloc (Nat.le_refl _) _).alloc (by simp) _).drew).mono ?_; rintro e w' ⟨rfl, rfl⟩))
  go_wp2
  refine bodyPost_ret (v := .agg #[.int .i64 (fidx s od no), .bool si, .int .i64 st, .int .i64 no, .int .u64 (IntKind.u64.wrap sd)]) (by simp [results, Try.results41, go_sem]) rfl ⟨rfl, ?_⟩
  exact (((World.Since.refl _ _).alloc (Nat.le_refl _) _).alloc (by simp) _).drew
end Go.Proofs.Qxb6601175a.Idx
