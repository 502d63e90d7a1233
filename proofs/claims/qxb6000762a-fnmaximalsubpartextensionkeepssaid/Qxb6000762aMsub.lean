import Derived.Test.Qxb6000762aRows
import Derived.WalkKit
import Derived.ProofKit
import Derived.OpenShut
import Derived.ShutString
import Derived.Test.Qxb6000762aMsPlain
namespace Go.Proofs.Qxb6000762a.Msub
open Go.ChangeShapes Go.WideShapes Go.ChangeAt Go.RowKit

theorem ret_int {k : IntKind} {a b : Int} (h : a = b) : Ending.returned (.int k a) = .returned (.int k b) := by rw [h]

set_option maxHeartbeats 1000000 in
theorem ms_ge3 (s : ByteArray) (w0 : s.size ≤ maxLen) (hp : 3 ≤ s.size) (w : World) :
    Calls Try.prog 29 #[.string s] w fun e w' => e = .returned (.int .i64 (msS s)) ∧ w' = w := by
  unfold maxLen at w0
  have H0 : Hid (((s[0]).toNat : Int) = bt s 0) := bt_get s 0 (by omega)
  have H1 : Hid (((s[1]).toNat : Int) = bt s 1) := bt_get s 1 (by omega)
  have H2 : Hid (((s[2]).toNat : Int) = bt s 2) := bt_get s 2 (by omega)
  go_enter Try.func29, Try.ntmps29
  go_wp2
  all_goals
    go_ret
    refine ⟨ret_int ?_, rfl⟩
    have e0 := H0.out
    have e1 := H1.out
    have e2 := H2.out
    simp only [beq_iff_eq, beq_eq_false_iff_ne, e0, e1, e2] at *
    unfold msS
    generalize bt s 0 = a at *
    generalize bt s 1 = b at *
    generalize bt s 2 = c at *
    first
      | exact ms_one (by rw [sec_iff]; omega)
      | exact ms_two (by omega) (by rw [sec_iff]; omega) (by omega)
      | exact ms_three (by omega) (by rw [sec_iff]; omega) (by omega)

set_option maxHeartbeats 1000000 in
theorem ms_eq2 (s : ByteArray) (hp : 2 ≤ s.size) (hq : s.size < 3) (w : World) :
    Calls Try.prog 29 #[.string s] w fun e w' => e = .returned (.int .i64 (msS s)) ∧ w' = w := by
  have H0 : Hid (((s[0]).toNat : Int) = bt s 0) := bt_get s 0 (by omega)
  have H1 : Hid (((s[1]).toNat : Int) = bt s 1) := bt_get s 1 (by omega)
  go_enter Try.func29, Try.ntmps29
  go_wp2
  all_goals
    go_ret
    refine ⟨ret_int ?_, rfl⟩
    have e0 := H0.out
    have e1 := H1.out
    simp only [beq_iff_eq, beq_eq_false_iff_ne, e0, e1] at *
    unfold msS
    generalize bt s 0 = a at *
    generalize bt s 1 = b at *
    first
      | exact ms_one (by rw [sec_iff]; omega)
      | exact ms_two (by omega) (by rw [sec_iff]; omega) (by omega)

set_option maxHeartbeats 1000000 in
theorem ms_eq1 (s : ByteArray) (hp : 1 ≤ s.size) (hq : s.size < 2) (w : World) :
    Calls Try.prog 29 #[.string s] w fun e w' => e = .returned (.int .i64 (msS s)) ∧ w' = w := by
  go_enter Try.func29, Try.ntmps29
  go_wp2
  all_goals
    go_ret
    exact ⟨ret_int (ms_one (by omega)), rfl⟩

/-- maximalSubpart, whole -/
theorem ms_any (s : ByteArray) (w0 : s.size ≤ maxLen) (hp : 1 ≤ s.size) (w : World) :
    Calls Try.prog 29 #[.string s] w fun e w' => e = .returned (.int .i64 (msS s)) ∧ w' = w := by
  by_cases h2 : s.size < 2
  · exact ms_eq1 s hp h2 w
  · by_cases h3 : s.size < 3
    · exact ms_eq2 s (by omega) h3 w
    · exact ms_ge3 s w0 (by omega) w

/-- ZZMaximalSubpart -/
theorem zzms_any (s : ByteArray) (w0 : s.size ≤ maxLen) (hp : 1 ≤ s.size) (w : World) :
    Calls Try.prog 22 #[.string s] w fun e w' => e = .returned (.int .i64 (msS s)) ∧ w' = w := by
  go_enter Try.func22, Try.ntmps22
  go_wp2_with (go_at_call 29; refine (ms_any _ w0 hp _).mono ?_; rintro e w' ⟨rfl, rfl⟩)
  go_ret
  exact ⟨rfl, rfl⟩
end Go.Proofs.Qxb6000762a.Msub
