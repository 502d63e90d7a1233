/-
  The proof of 'Rows.FnMaximalSubpartMatchesModelSaid': the frame is the guide's shell for this function; the walk and the plain law are ours.
-/
import Derived.Test.Qxb6000762aRows
import Derived.WalkKit
import Derived.ProofKit
import Derived.OpenShut
import Derived.ShutString
import Derived.Test.Qxb6000762aWf
namespace Go.Proofs.Qxb6000762a.fnMaximalSubpartMatchesModel
open Go.ChangeShapes Go.WideShapes Go.ChangeAt Go.RowKit
open Go.ChangeMaps (open_string shut_string)
set_option linter.unusedVariables false      -- a walk need not use every 'w<i>' (that an integer argument fits its kind)

theorem own : ownKnob Try.prog.godebug = none := by kernel_rfl

open Go.Proofs.Qxb6000762a.Msub

theorem bytes_ok (a0 : ByteArray) (h : a0.size ≤ 1048576) (w : World) :
    Calls Try.prog 20 #[.string a0] w fun e w' => e = .returned (.bool true) ∧ w' = w := by
  go_enter Try.func20, Try.ntmps20
  go_wp2
  go_ret
  exact ⟨rfl, rfl⟩
theorem bytes_no (a0 : ByteArray) (h : 1048576 < a0.size) (w0 : a0.size ≤ maxLen) (w : World) :
    Calls Try.prog 20 #[.string a0] w fun e w' => e = .returned (.bool false) ∧ w' = w := by
  unfold maxLen at w0
  go_enter Try.func20, Try.ntmps20
  go_wp2
  go_ret
  exact ⟨rfl, rfl⟩

/-- the two last calls of prefixOK -/
theorem first_ok (s : ByteArray) (w0 : s.size ≤ maxLen) (h1 : 1 ≤ s.size) (hr : 1 < msS s) (w : World) :
    Calls Try.prog 23 #[.string (s.extract 0 (msS s).toNat)] w fun e w' => e = .returned (.bool true) ∧ w' = w := by
  have hb := msS_bd s h1
  have hz := size_pre s (msS s).toNat (by omega)
  have h := pok_any (s.extract 0 (msS s).toNat) (by omega) (by omega) w
  rw [matches_1 s h1 hr] at h
  exact h
theorem second_no (s : ByteArray) (w0 : s.size ≤ maxLen) (h1 : 1 ≤ s.size) (hw : wfS s = false) (hr : msS s < s.size) (w : World) :
    Calls Try.prog 23 #[.string (s.extract 0 (msS s + 1).toNat)] w fun e w' => e = .returned (.bool false) ∧ w' = w := by
  have hb := msS_bd s h1
  have hz := size_pre s (msS s + 1).toNat (by omega)
  have h := pok_any (s.extract 0 (msS s + 1).toNat) (by omega) (by omega) w
  rw [matches_2 s h1 hw hr] at h
  exact h

/-- beginsWellFormed, each way -/
theorem wf_yes (s : ByteArray) (w0 : s.size ≤ maxLen) (hp : 1 ≤ s.size) (h : wfS s = true) (w : World) :
    Calls Try.prog 21 #[.string s] w fun e w' => e = .returned (.bool true) ∧ w' = w := by
  have := wf_any s w0 hp w
  rw [h] at this
  exact this
theorem wf_no (s : ByteArray) (w0 : s.size ≤ maxLen) (hp : 1 ≤ s.size) (h : wfS s = false) (w : World) :
    Calls Try.prog 21 #[.string s] w fun e w' => e = .returned (.bool false) ∧ w' = w := by
  have := wf_any s w0 hp w
  rw [h] at this
  exact this

/-! ### STEP 1: THE WALK -/
set_option maxRecDepth 100000 in
set_option maxHeartbeats 1000000 in
theorem walk (a0 : ByteArray) (w0 : a0.size ≤ maxLen) (w : World) :
    Calls Try.prog 7 #[.string a0] w fun e w' => e = .returned (.bool true) ∧ Grown w w' := by
  by_cases hs : a0.size ≤ 1048576
  · by_cases hz : a0.size = 0
    · have hz' : ((a0.size : Int) == 0) = true := by simp [hz]
      clear hz
      go_enter Try.func7, Try.ntmps7
      go_wp2_with (go_at_call 20; refine (bytes_ok _ hs _).mono ?_; rintro e w' ⟨rfl, rfl⟩)
      go_ret
      exact ⟨rfl, Grown.refl _⟩
    · have hp : 1 ≤ a0.size := by omega
      have hz' : ((a0.size : Int) == 0) = false := by simp [hz]
      clear hz
      have hb := msS_bd a0 hp
      have hb1 := hb.1
      have hb2 := hb.2
      have hb3 := msS_le3 a0
      clear hb
      cases hwf : wfS a0
      · have HW : Hid (wfS a0 = false) := hwf
        clear hwf
        by_cases h1 : 1 < msS a0
        · by_cases h2 : msS a0 < a0.size
          · go_enter Try.func7, Try.ntmps7
            go_wp2_with (first | (go_at_call 20; refine (bytes_ok _ hs _).mono ?_; rintro e w' ⟨rfl, rfl⟩) | (go_at_call 21; refine (wf_no _ w0 hp HW.out _).mono ?_; rintro e w' ⟨rfl, rfl⟩) | (go_at_call 22; refine (zzms_any _ w0 hp _).mono ?_; rintro e w' ⟨rfl, rfl⟩))
            refine (first_ok _ w0 hp h1 _).mono ?_; rintro e w'' ⟨rfl, rfl⟩
            go_wp2_with fail
            refine (second_no _ w0 hp HW.out h2 _).mono ?_; rintro e w'' ⟨rfl, rfl⟩
            go_wp2
            go_ret
            exact ⟨rfl, Grown.refl _⟩
          · go_enter Try.func7, Try.ntmps7
            go_wp2_with (first | (go_at_call 20; refine (bytes_ok _ hs _).mono ?_; rintro e w' ⟨rfl, rfl⟩) | (go_at_call 21; refine (wf_no _ w0 hp HW.out _).mono ?_; rintro e w' ⟨rfl, rfl⟩) | (go_at_call 22; refine (zzms_any _ w0 hp _).mono ?_; rintro e w' ⟨rfl, rfl⟩))
            refine (first_ok _ w0 hp h1 _).mono ?_; rintro e w'' ⟨rfl, rfl⟩
            go_wp2
            go_ret
            exact ⟨rfl, Grown.refl _⟩
        · by_cases h2 : msS a0 < a0.size
          · go_enter Try.func7, Try.ntmps7
            go_wp2_with (first | (go_at_call 20; refine (bytes_ok _ hs _).mono ?_; rintro e w' ⟨rfl, rfl⟩) | (go_at_call 21; refine (wf_no _ w0 hp HW.out _).mono ?_; rintro e w' ⟨rfl, rfl⟩) | (go_at_call 22; refine (zzms_any _ w0 hp _).mono ?_; rintro e w' ⟨rfl, rfl⟩))
            refine (second_no _ w0 hp HW.out h2 _).mono ?_; rintro e w'' ⟨rfl, rfl⟩
            go_wp2
            go_ret
            exact ⟨rfl, Grown.refl _⟩
          · go_enter Try.func7, Try.ntmps7
            go_wp2_with (first | (go_at_call 20; refine (bytes_ok _ hs _).mono ?_; rintro e w' ⟨rfl, rfl⟩) | (go_at_call 21; refine (wf_no _ w0 hp HW.out _).mono ?_; rintro e w' ⟨rfl, rfl⟩) | (go_at_call 22; refine (zzms_any _ w0 hp _).mono ?_; rintro e w' ⟨rfl, rfl⟩))
            go_ret
            exact ⟨rfl, Grown.refl _⟩
      · have HW : Hid (wfS a0 = true) := hwf
        clear hwf
        go_enter Try.func7, Try.ntmps7
        go_wp2_with (first | (go_at_call 20; refine (bytes_ok _ hs _).mono ?_; rintro e w' ⟨rfl, rfl⟩) | (go_at_call 21; refine (wf_yes _ w0 hp HW.out _).mono ?_; rintro e w' ⟨rfl, rfl⟩))
        go_ret
        exact ⟨rfl, Grown.refl _⟩
  · have hs' : 1048576 < a0.size := by omega
    clear hs
    go_enter Try.func7, Try.ntmps7
    go_wp2_with (go_at_call 20; refine (bytes_no _ hs' w0 _).mono ?_; rintro e w' ⟨rfl, rfl⟩)
    go_ret
    exact ⟨rfl, Grown.refl _⟩

/-! ### THE ROW's STEP -/
set_option maxRecDepth 100000 in
theorem lifted (os : Os) (started : os.Started) (H : Type) (enc : TypeId × Value → H) :
    ReturnsInHanded {} Try.checked os 7 .any (Rows.fnMaximalSubpartMatchesModelSpec.pre6 enc Try.prog Try.f7 Rows.fnMaximalSubpartMatchesModelRow.domain false) (Rows.fnMaximalSubpartMatchesModelSpec.post enc Try.prog Try.f7 false true false false) := by
  refine returnsInHanded_of_change (C := Try.checked) own started (by kernel_rfl) Try.func7
    (ChangeSpec.witness6 (enc := enc) (C := Try.checked) false ⟨#[], #[.string ByteArray.empty], []⟩ 8 (by kernel_rfl) (by kernel_rfl) (by kernel_rfl) (by kernel_rfl)) ?_
  intro W base args ds gs before hval0 hW hcnd _
  have hval : ∀ (j : Nat) t v, Try.f7.params[j]? = some t → args[j]? = some v → Value.okWide Try.prog W .any base t v := hval0
  have hW' := hW
  obtain ⟨p, q, hA0, hV, rfl, hfz, hnd⟩ := hW
  have hA : DataW.TrodAll enc Try.prog W 0 (fun _ => true) true Try.f7.params.toList args.toList ds p := hA0
  rw [Try.params7] at hA hval
  obtain ⟨v0, vs0, d0, ds0, p0, q0, hargs, rfl, rfl, h0, r0⟩ := trodAll_cons hA
  obtain ⟨rfl, rfl, rfl⟩ := trodAll_nil r0
  obtain rfl : args = #[v0] := by cases args; simp_all
  obtain ⟨rfl, rfl⟩ := trodVars_none hV
  obtain ⟨a0, rfl, rfl, rfl, w0⟩ := open_string Try.underlying9 (hval 0 9 v0 rfl rfl) h0
  clear hA0 hval0
  simp only [List.append_nil] at hW'
  refine (walk a0 w0 W).mono fun e W' ⟨he, hg⟩ => ?_
  subst he
  exact ⟨_, rfl, post_of_same (pa := []) (pv := []) hW' (fun _ _ _ => (trodAll_cons_mk (shut_bool Try.underlying4 _) trodAll_mk0)) (fun sp _ => (trodAll_cons_mk (shut_string Try.underlying9 w0) trodAll_mk0)) (fun _ _ => rfl) rfl
    (hg.frame _) hg.2.1 (ok_one (by kernel_rfl) rfl (okWide_bool_mk Try.underlying4 _))⟩

theorem over : Rows.fnMaximalSubpartMatchesModelRow.holds Try.pinned (OpenSpec.ofChange Rows.fnMaximalSubpartMatchesModelSpec) :=
  OpenClaim.holds_of_wide 7 Try.f7 rfl rfl rfl rfl rfl rfl rfl ⟨rfl, rfl, rfl, rfl, rfl⟩ rfl rfl rfl rfl rfl (by kernel_rfl) Try.func7 (by kernel_rfl)
    (of_decide_eq_true (by kernel_rfl)) (by unfold Func.isWrapper; first | (rw [if_pos (by decide +kernel)]; kernel_rfl) | (rw [if_neg (by decide +kernel)]; exact ⟨rfl, rfl⟩))
    (fun os started H enc _ => lifted os started H enc)

/-- ████ THE STATEMENT ████ -/
theorem proved : Rows.FnMaximalSubpartMatchesModelSaid :=
  over
end Go.Proofs.Qxb6000762a.fnMaximalSubpartMatchesModel
