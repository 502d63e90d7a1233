import Derived.Test.Qxb6601158aRows
import Derived.WalkKit
import Derived.ProofKit
import Derived.OpenShut
import Derived.OwnWalk
import Derived.Test.Qxb6601158aExcPlain
namespace Go.Proofs.Qxb6601158a.Exc
open Go.ChangeShapes Go.WideShapes Go.ChangeAt Go.RowKit

theorem ret_two {a b : Int} {p q : Bool} (h : a = b ∧ p = q) : Ending.returned (.tuple #[.int .u8 a, .bool p]) = .returned (.tuple #[.int .u8 b, .bool q]) := by rw [h.1, h.2]

set_option maxHeartbeats 1000000 in
theorem row_any (k : Nat) (h : k < 16) (w : World) :
    Calls Try.prog 13 #[.int .i64 k] w fun e w' => e = .returned (.tuple #[.int .i32 (lo k), .int .i32 (hi k), .int .u8 (pr k)]) ∧ w' = w := by
  rcases below k h with rfl | rfl | rfl | rfl | rfl | rfl | rfl | rfl | rfl | rfl | rfl | rfl | rfl | rfl | rfl | rfl
  all_goals
    clear h
    go_enter Try.func13, Try.ntmps13
    go_wp2
    go_ret3
    exact ⟨rfl, rfl⟩

set_option maxHeartbeats 1000000 in
theorem exc_any (r : Int) (h0 : -2147483648 ≤ r) (h1 : r ≤ 2147483647) (w : World) :
    Calls Try.prog 14 #[.int .i32 r] w fun e w' => e = .returned (.tuple #[.int .u8 (prop r), .bool (has r)]) ∧ w' = w := by
  go_enter Try.func14, Try.ntmps14
  go_wp2
  all_goals
    go_ret2
    refine ⟨ret_two ?_, rfl⟩
    simp only [beq_iff_eq, beq_eq_false_iff_ne] at *
    first
      | exact at_V (by unfold isV; omega)
      | exact at_O (by unfold isO; omega)
      | exact at_D (by unfold isD; omega)
      | exact at_no (by unfold isV isO isD; omega)

/-- ZZException -/
theorem zzexc_any (r : Int) (h0 : -2147483648 ≤ r) (h1 : r ≤ 2147483647) (w : World) :
    Calls Try.prog 9 #[.int .i32 r] w fun e w' => e = .returned (.tuple #[.int .u8 (prop r), .bool (has r)]) ∧ w' = w := by
  go_enter Try.func9, Try.ntmps9
  go_wp2_with (go_at_call 14; refine (exc_any _ h0 h1 _).mono ?_; rintro e w' ⟨rfl, rfl⟩)
  go_ret2
  exact ⟨rfl, rfl⟩

set_option maxHeartbeats 1000000 in
/-- rfc5892Exception: the scan of the table -/
theorem tab_any (r : Int) (w : World) :
    Calls Try.prog 8 #[.int .i32 r] w fun e w' => e = .returned (.tuple #[.int .u8 (prop r), .bool (has r)]) ∧ w' = w := by
  go_enter Try.func8, Try.ntmps8
  go_wp2
  go_loop [4, 5, 6, 7] (fun i _ _ _ => ∃ k : Nat, k ≤ 16 ∧ i = .int .i64 k ∧ Hid (∀ j, j < k → ¬ (lo j ≤ r ∧ r ≤ hi j))) (fun i _ _ _ => 16 - (intOf i).toNat)
  case atStart => exact ⟨0, Nat.zero_le _, rfl, fun j a => absurd a (by omega)⟩
  case round =>
    obtain ⟨k, hk, rfl, HR⟩ := hrel
    by_cases hlt : k < 16
    · by_cases hit1 : lo k ≤ r
      · by_cases hit2 : r ≤ hi k
        · go_wp2_with (go_at_call 13; refine (row_any _ hlt _).mono ?_; rintro e w' ⟨rfl, rfl⟩)
          go_ret2
          exact ⟨ret_two (hit k hlt r hit1 hit2), rfl⟩
        · go_wp2_with (go_at_call 13; refine (row_any _ hlt _).mono ?_; rintro e w' ⟨rfl, rfl⟩)
          go_round
          case rel =>
            refine ⟨k + 1, by omega, by go_num, fun j a => ?_⟩
            by_cases hj : j = k
            · subst hj; omega
            · exact HR.out j (by omega)
          case measure => simp [intOf]; omega
      · go_wp2_with (go_at_call 13; refine (row_any _ hlt _).mono ?_; rintro e w' ⟨rfl, rfl⟩)
        go_round
        case rel =>
          refine ⟨k + 1, by omega, by go_num, fun j a => ?_⟩
          by_cases hj : j = k
          · subst hj; omega
          · exact HR.out j (by omega)
        case measure => simp [intOf]; omega
    · obtain rfl : k = 16 := by omega
      go_wp2
      go_ret2
      exact ⟨ret_two (miss r HR.out), rfl⟩
end Go.Proofs.Qxb6601158a.Exc
