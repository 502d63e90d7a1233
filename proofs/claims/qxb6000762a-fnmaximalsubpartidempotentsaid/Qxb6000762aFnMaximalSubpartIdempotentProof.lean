/-
  The proof of 'Rows.FnMaximalSubpartIdempotentSaid': the frame is the guide's shell for this function; the walk and the plain law are ours.
-/
import Derived.Test.Qxb6000762aRows
import Derived.WalkKit
import Derived.ProofKit
import Derived.OpenShut
import Derived.ShutString
import Derived.Test.Qxb6000762aMsub
namespace Go.Proofs.Qxb6000762a.fnMaximalSubpartIdempotent
open Go.ChangeShapes Go.WideShapes Go.ChangeAt Go.RowKit
open Go.ChangeMaps (open_string shut_string)
set_option linter.unusedVariables false      -- a walk need not use every 'w<i>' (that an integer argument fits its kind)

theorem own : ownKnob Try.prog.godebug = none := by kernel_rfl

open Go.Proofs.Qxb6000762a.Msub

theorem bytes_ok (a0 : ByteArray) (h : a0.size ≤ 1048576) (w : World) :
    Calls Try.prog 24 #[.string a0] w fun e w' => e = .returned (.bool true) ∧ w' = w := by
  go_enter Try.func24, Try.ntmps24
  go_wp2
  go_ret
  exact ⟨rfl, rfl⟩
theorem bytes_no (a0 : ByteArray) (h : 1048576 < a0.size) (w0 : a0.size ≤ maxLen) (w : World) :
    Calls Try.prog 24 #[.string a0] w fun e w' => e = .returned (.bool false) ∧ w' = w := by
  unfold maxLen at w0
  go_enter Try.func24, Try.ntmps24
  go_wp2
  go_ret
  exact ⟨rfl, rfl⟩

/-- the second call: the prefix of the answer's length has the same answer -/
theorem again (a0 : ByteArray) (w0 : a0.size ≤ maxLen) (hp : 1 ≤ a0.size) (w : World) :
    Calls Try.prog 22 #[.string (a0.extract 0 (msS a0).toNat)] w fun e w' => e = .returned (.int .i64 (msS a0)) ∧ w' = w := by
  have hb := msS_bd a0 hp
  have hz := size_pre a0 (msS a0).toNat (by omega)
  have h := zzms_any (a0.extract 0 (msS a0).toNat) (by omega) (by omega) w
  rw [idem a0 hp] at h
  exact h

/-! ### STEP 1: THE WALK -/
theorem walk (a0 : ByteArray) (w0 : a0.size ≤ maxLen) (w : World) :
    Calls Try.prog 8 #[.string a0] w fun e w' => e = .returned (.bool true) ∧ Grown w w' := by
  by_cases hs : a0.size ≤ 1048576
  · by_cases hz : a0.size = 0
    · have hz' : a0.size < 1 := by omega
      clear hz
      go_enter Try.func8, Try.ntmps8
      go_wp2_with (go_at_call 24; refine (bytes_ok _ hs _).mono ?_; rintro e w' ⟨rfl, rfl⟩)
      go_ret
      exact ⟨rfl, by repeat (first | exact Grown.refl _ | apply Grown.drew | apply Grown.alloc)⟩
    · have hp : 1 ≤ a0.size := by omega
      clear hz
      have hb := msS_bd a0 hp
      have hb1 := hb.1
      have hb2 := hb.2
      clear hb
      go_enter Try.func8, Try.ntmps8
      go_wp2_with (go_at_call 24; refine (bytes_ok _ hs _).mono ?_; rintro e w' ⟨rfl, rfl⟩)
      refine (zzms_any _ w0 hp _).mono ?_; rintro e w' ⟨rfl, rfl⟩
      go_wp2_with fail
      refine (again a0 w0 hp _).mono ?_; rintro e w'' ⟨rfl, rfl⟩
      go_wp2
      go_ret
      exact ⟨rfl, by repeat (first | exact Grown.refl _ | apply Grown.drew | apply Grown.alloc)⟩
  · have hs' : 1048576 < a0.size := by omega
    clear hs
    go_enter Try.func8, Try.ntmps8
    go_wp2_with (go_at_call 24; refine (bytes_no _ hs' w0 _).mono ?_; rintro e w' ⟨rfl, rfl⟩)
    go_ret
    exact ⟨rfl, by repeat (first | exact Grown.refl _ | apply Grown.drew | apply Grown.alloc)⟩

/-! ### THE ROW's STEP -/
set_option maxRecDepth 100000 in
theorem lifted (os : Os) (started : os.Started) (H : Type) (enc : TypeId × Value → H) :
    ReturnsInHanded {} Try.checked os 8 .any (Rows.fnMaximalSubpartIdempotentSpec.pre6 enc Try.prog Try.f8 Rows.fnMaximalSubpartIdempotentRow.domain false) (Rows.fnMaximalSubpartIdempotentSpec.post enc Try.prog Try.f8 false true false false) := by
  refine returnsInHanded_of_change (C := Try.checked) own started (by kernel_rfl) Try.func8
    (ChangeSpec.witness6 (enc := enc) (C := Try.checked) false ⟨#[], #[.string ByteArray.empty], []⟩ 8 (by kernel_rfl) (by kernel_rfl) (by kernel_rfl) (by kernel_rfl)) ?_
  intro W base args ds gs before hval0 hW hcnd _
  have hval : ∀ (j : Nat) t v, Try.f8.params[j]? = some t → args[j]? = some v → Value.okWide Try.prog W .any base t v := hval0
  have hW' := hW
  obtain ⟨p, q, hA0, hV, rfl, hfz, hnd⟩ := hW
  have hA : DataW.TrodAll enc Try.prog W 0 (fun _ => true) true Try.f8.params.toList args.toList ds p := hA0
  rw [Try.params8] at hA hval
  obtain ⟨v0, vs0, d0, ds0, p0, q0, hargs, rfl, rfl, h0, r0⟩ := trodAll_cons hA
  obtain ⟨rfl, rfl, rfl⟩ := trodAll_nil r0
  obtain rfl : args = #[v0] := by cases args; simp_all
  obtain ⟨rfl, rfl⟩ := trodVars_none hV
  obtain ⟨a0, rfl, rfl, rfl, w0⟩ := open_string Try.underlying9 (hval 0 9 v0 rfl rfl) h0
  clear hA0 hval0
  simp only [List.append_nil] at hW'
  refine (walk a0 w0 W).mono fun e W' ⟨he, hg⟩ => ?_
  subst he
  exact ⟨_, rfl, post_of_same (pa := []) (pv := []) hW' (fun _ _ _ => (trodAll_cons_mk (shut_bool Try.underlying4 _) trodAll_mk0)) (fun sp _ => (trodAll_cons_mk (shut_string Try.underlying9 w0) trodAll_mk0)) (fun _ _ => rfl) rfl
    (hg.frame _) hg.2.1 (ok_one (by kernel_rfl) rfl (okWide_bool_mk Try.underlying4 _))⟩

theorem over : Rows.fnMaximalSubpartIdempotentRow.holds Try.pinned (OpenSpec.ofChange Rows.fnMaximalSubpartIdempotentSpec) :=
  OpenClaim.holds_of_wide 8 Try.f8 rfl rfl rfl rfl rfl rfl rfl ⟨rfl, rfl, rfl, rfl, rfl⟩ rfl rfl rfl rfl rfl (by kernel_rfl) Try.func8 (by kernel_rfl)
    (of_decide_eq_true (by kernel_rfl)) (by unfold Func.isWrapper; first | (rw [if_pos (by decide +kernel)]; kernel_rfl) | (rw [if_neg (by decide +kernel)]; exact ⟨rfl, rfl⟩))
    (fun os started H enc _ => lifted os started H enc)

/-- ████ THE STATEMENT ████ -/
theorem proved : Rows.FnMaximalSubpartIdempotentSaid :=
  over
end Go.Proofs.Qxb6000762a.fnMaximalSubpartIdempotent
