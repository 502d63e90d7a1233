import Derived.Test.Qxb6000762aCav
import Derived.Deep.QuietTactic
import Derived.BigQuiet
namespace Go.Proofs.Qxb6000762a.Msub
open Go.ChangeShapes Go.WideShapes Go.ChangeAt Go.RowKit

theorem ret_int' {k : IntKind} {a b : Int} (h : a = b) : Ending.returned (.int k a) = .returned (.int k b) := by rw [h]

theorem ret_bool' {a b : Bool} (h : a = b) : Ending.returned (.bool a) = .returned (.bool b) := by rw [h]

/-- lowerASCII -/
theorem lower_any (c : Int) (h0 : 0 ≤ c) (h1 : c ≤ 255) (w : World) :
    Calls Try.prog 17 #[.int .u8 c] w fun e w' => e = .returned (.int .u8 (lwI c)) ∧ w' = w := by
  go_enter Try.func17, Try.ntmps17
  go_wp2
  all_goals
    go_ret
    refine ⟨ret_int' ?_, rfl⟩
    unfold lwI
    split <;> omega

/-- upperASCII -/
theorem upper_any (c : Int) (h0 : 0 ≤ c) (h1 : c ≤ 255) (w : World) :
    Calls Try.prog 16 #[.int .u8 c] w fun e w' => e = .returned (.int .u8 (upI c)) ∧ w' = w := by
  go_enter Try.func16, Try.ntmps16
  go_wp2
  all_goals
    go_ret
    refine ⟨ret_int' ?_, rfl⟩
    unfold upI
    split <;> omega

/-- cavageName -/
theorem cname_any (k : Nat) (h : k < 7) (w : World) :
    Calls Try.prog 13 #[.int .u64 k] w fun e w' => e = .returned (.string (cn k)) ∧ w' = w := by
  rcases below7 k h with rfl | rfl | rfl | rfl | rfl | rfl | rfl
  all_goals
    clear h
    go_enter Try.func13, Try.ntmps13
    go_wp2
    go_ret
    exact ⟨rfl, rfl⟩

theorem grown_drewN {a b : World} (n : Nat) (h : Grown a b) : Grown a (b.drewN n) := h

set_option maxHeartbeats 400000 in
/-- foldEqual at two strings of one length -/
theorem fold_eqlen (a b : ByteArray) (w0 : a.size ≤ 1048576) (he : a.size = b.size) (w : World) :
    Calls Try.prog 12 #[.string a, .string b] w fun e w' => e = .returned (.bool (feB a b)) ∧ Grown w w' := by
  have hz : ((a.size : Int) != (b.size : Int)) = false := by simp [he]
  have hle : a.size ≤ b.size := by omega
  have HE : Hid (a.size = b.size) := he
  clear he
  go_enter Try.func12, Try.ntmps12
  go_wp2
  go_loopw [5] (fun i wr => ∃ k : Nat, k ≤ a.size ∧ i = .int .i64 k ∧ Hid (∀ j, j < k → lwI (bt a j) = lwI (bt b j)) ∧ Grown w wr) (fun i _ => a.size - (intOf i).toNat)
  case atStart => exact ⟨0, Nat.zero_le _, rfl, fun j hj => absurd hj (by omega), Grown.refl _⟩
  case round =>
    obtain ⟨k, hk, rfl, HS, hg⟩ := hrel
    have HG : Hid (Grown w wr) := hg
    clear hg
    by_cases hlt : k < a.size
    · have hlt2 : k < b.size := by omega
      have ea := bt_get a k hlt
      have eb := bt_get b k hlt2
      have ha := bt_bd a k
      have hb := bt_bd b k
      by_cases hc : lwI (bt a k) = lwI (bt b k)
      · have hc' : (lwI (bt a k) != lwI (bt b k)) = false := by simp [hc]
        have HC : Hid (lwI (bt a k) = lwI (bt b k)) := hc
        clear hc
        go_wp2
        go_quiet ((go_at_call 17; exact Calls.quiet_of_same (lower_any _ (by omega) (by omega) _)))
        go_wp2
        go_roundw
        case rel =>
          refine ⟨k + 1, by omega, by go_num, fun j hj => ?_, grown_drewN _ HG.out⟩
          by_cases e : j = k
          · subst e; exact HC.out
          · exact HS.out j (by omega)
        case measure => simp [intOf]; omega
      · have hc' : (lwI (bt a k) != lwI (bt b k)) = true := by simp [hc]
        have HC : Hid (¬ lwI (bt a k) = lwI (bt b k)) := hc
        clear hc
        go_wp2
        go_quiet ((go_at_call 17; exact Calls.quiet_of_same (lower_any _ (by omega) (by omega) _)))
        go_wp2
        go_ret
        refine ⟨ret_bool' (Bool.eq_false_iff.2 fun e => HC.out (((feB_iff a b).1 e).2 k hlt)).symm, grown_drewN _ HG.out⟩
    · go_wp2
      go_ret
      exact ⟨ret_bool' ((feB_iff a b).2 ⟨HE.out, fun i hi => HS.out i (by omega)⟩).symm, HG.out⟩

/-- foldEqual, whole -/
theorem fold_any (a b : ByteArray) (w0 : a.size ≤ 1048576) (w : World) :
    Calls Try.prog 12 #[.string a, .string b] w fun e w' => e = .returned (.bool (feB a b)) ∧ Grown w w' := by
  by_cases he : a.size = b.size
  · exact fold_eqlen a b w0 he w
  · have hz : ((a.size : Int) != (b.size : Int)) = true := by simp; omega
    have H : Hid (false = feB a b) := (Bool.eq_false_iff.2 fun e => he ((feB_iff a b).1 e).1).symm
    clear he
    go_enter Try.func12, Try.ntmps12
    go_wp2
    go_ret
    exact ⟨ret_bool' H.out, Grown.refl _⟩
end Go.Proofs.Qxb6000762a.Msub
