/-
  The proof of 'Rows.FnMaximalSubpartExtensionKeepsSaid': the frame is the guide's shell for this function; the walk and the plain law are ours.
-/
import Derived.Test.Qxb6000762aRows
import Derived.WalkKit
import Derived.ProofKit
import Derived.OpenShut
import Derived.ShutString
import Derived.Test.Qxb6000762aWf
namespace Go.Proofs.Qxb6000762a.fnMaximalSubpartExtensionKeeps
open Go.ChangeShapes Go.WideShapes Go.ChangeAt Go.RowKit
open Go.ChangeMaps (open_string shut_string)
set_option linter.unusedVariables false      -- a walk need not use every 'w<i>' (that an integer argument fits its kind)

theorem own : ownKnob Try.prog.godebug = none := by kernel_rfl

open Go.Proofs.Qxb6000762a.Msub

theorem bytes_ok (a0 a1 : ByteArray) (h : a0.size + a1.size ≤ 1048576) (w : World) :
    Calls Try.prog 25 #[.string a0, .string a1] w fun e w' => e = .returned (.bool true) ∧ w' = w := by
  go_enter Try.func25, Try.ntmps25
  go_wp2
  go_ret
  exact ⟨rfl, rfl⟩
theorem bytes_no (a0 a1 : ByteArray) (h : 1048576 < a0.size + a1.size) (w0 : a0.size ≤ maxLen) (w1 : a1.size ≤ maxLen) (w : World) :
    Calls Try.prog 25 #[.string a0, .string a1] w fun e w' => e = .returned (.bool false) ∧ w' = w := by
  unfold maxLen at w0 w1
  go_enter Try.func25, Try.ntmps25
  go_wp2
  all_goals
    go_ret
    exact ⟨rfl, rfl⟩

/-- beginsWellFormed, each way -/
theorem wf_yes (s : ByteArray) (w0 : s.size ≤ maxLen) (hp : 1 ≤ s.size) (h : wfS s = true) (w : World) :
    Calls Try.prog 21 #[.string s] w fun e w' => e = .returned (.bool true) ∧ w' = w := by
  have := wf_any s w0 hp w
  rw [h] at this
  exact this
theorem wf_no (s : ByteArray) (w0 : s.size ≤ maxLen) (hp : 1 ≤ s.size) (h : wfS s = false) (w : World) :
    Calls Try.prog 21 #[.string s] w fun e w' => e = .returned (.bool false) ∧ w' = w := by
  have := wf_any s w0 hp w
  rw [h] at this
  exact this

/-- the last call -/
theorem last_call (s t : ByteArray) (hs : s.size + t.size ≤ 1048576) (h1 : 1 ≤ s.size) (w : World) :
    Calls Try.prog 22 #[.string (s.extract 0 (msS s).toNat ++ t)] w fun e w' => (∃ r : Int, msS s ≤ r ∧ e = .returned (.int .i64 r)) ∧ w' = w := by
  have hb := msS_bd s h1
  have hz := size_pre s (msS s).toNat (by omega)
  have hz2 : (s.extract 0 (msS s).toNat ++ t).size = (msS s).toNat + t.size := by rw [ByteArray.size_append, hz]
  refine (zzms_any _ (by unfold maxLen; omega) (by omega) w).mono ?_
  rintro e w' ⟨rfl, rfl⟩
  exact ⟨⟨_, keeps s t h1, rfl⟩, rfl⟩

/-! ### STEP 1: THE WALK -/
set_option maxRecDepth 100000 in
set_option maxHeartbeats 1000000 in
theorem walk (a0 : ByteArray) (a1 : ByteArray) (w0 : a0.size ≤ maxLen) (w1 : a1.size ≤ maxLen) (w : World) :
    Calls Try.prog 9 #[.string a0, .string a1] w fun e w' => e = .returned (.bool true) ∧ Grown w w' := by
  by_cases hs : a0.size + a1.size ≤ 1048576
  · by_cases hz : a0.size = 0
    · have hz' : ((a0.size : Int) == 0) = true := by simp [hz]
      clear hz
      go_enter Try.func9, Try.ntmps9
      go_wp2_with (go_at_call 25; refine (bytes_ok _ _ hs _).mono ?_; rintro e w' ⟨rfl, rfl⟩)
      go_ret
      exact ⟨rfl, Grown.refl _⟩
    · have hp : 1 ≤ a0.size := by omega
      have hz' : ((a0.size : Int) == 0) = false := by simp [hz]
      clear hz
      have hb := msS_bd a0 hp
      have hb1 := hb.1
      have hb2 := hb.2
      clear hb
      cases hwf : wfS a0
      · have HW : Hid (wfS a0 = false) := hwf
        clear hwf
        go_enter Try.func9, Try.ntmps9
        go_wp2_with (first | (go_at_call 25; refine (bytes_ok _ _ hs _).mono ?_; rintro e w' ⟨rfl, rfl⟩) | (go_at_call 21; refine (wf_no _ w0 hp HW.out _).mono ?_; rintro e w' ⟨rfl, rfl⟩))
        refine (zzms_any _ w0 hp _).mono ?_; rintro e w' ⟨rfl, rfl⟩
        go_wp2_with fail
        refine (last_call _ _ hs hp _).mono ?_; rintro e w'' ⟨⟨r, hr, rfl⟩, rfl⟩
        go_wp2
        go_ret
        exact ⟨rfl, Grown.refl _⟩
      · have HW : Hid (wfS a0 = true) := hwf
        clear hwf
        go_enter Try.func9, Try.ntmps9
        go_wp2_with (first | (go_at_call 25; refine (bytes_ok _ _ hs _).mono ?_; rintro e w' ⟨rfl, rfl⟩) | (go_at_call 21; refine (wf_yes _ w0 hp HW.out _).mono ?_; rintro e w' ⟨rfl, rfl⟩))
        go_ret
        exact ⟨rfl, Grown.refl _⟩
  · have hs' : 1048576 < a0.size + a1.size := by omega
    clear hs
    go_enter Try.func9, Try.ntmps9
    go_wp2_with (go_at_call 25; refine (bytes_no _ _ hs' w0 w1 _).mono ?_; rintro e w' ⟨rfl, rfl⟩)
    go_ret
    exact ⟨rfl, Grown.refl _⟩

/-! ### THE ROW's STEP -/
set_option maxRecDepth 100000 in
theorem lifted (os : Os) (started : os.Started) (H : Type) (enc : TypeId × Value → H) :
    ReturnsInHanded {} Try.checked os 9 .any (Rows.fnMaximalSubpartExtensionKeepsSpec.pre6 enc Try.prog Try.f9 Rows.fnMaximalSubpartExtensionKeepsRow.domain false) (Rows.fnMaximalSubpartExtensionKeepsSpec.post enc Try.prog Try.f9 false true false false) := by
  refine returnsInHanded_of_change (C := Try.checked) own started (by kernel_rfl) Try.func9
    (ChangeSpec.witness6 (enc := enc) (C := Try.checked) false ⟨#[], #[.string ByteArray.empty, .string ByteArray.empty], []⟩ 8 (by kernel_rfl) (by kernel_rfl) (by kernel_rfl) (by kernel_rfl)) ?_
  intro W base args ds gs before hval0 hW hcnd _
  have hval : ∀ (j : Nat) t v, Try.f9.params[j]? = some t → args[j]? = some v → Value.okWide Try.prog W .any base t v := hval0
  have hW' := hW
  obtain ⟨p, q, hA0, hV, rfl, hfz, hnd⟩ := hW
  have hA : DataW.TrodAll enc Try.prog W 0 (fun _ => true) true Try.f9.params.toList args.toList ds p := hA0
  rw [Try.params9] at hA hval
  obtain ⟨v0, vs0, d0, ds0, p0, q0, hargs, rfl, rfl, h0, r0⟩ := trodAll_cons hA
  obtain ⟨v1, vs1, d1, ds1, p1, q1, rfl, rfl, rfl, h1, r1⟩ := trodAll_cons r0
  obtain ⟨rfl, rfl, rfl⟩ := trodAll_nil r1
  obtain rfl : args = #[v0, v1] := by cases args; simp_all
  obtain ⟨rfl, rfl⟩ := trodVars_none hV
  obtain ⟨a0, rfl, rfl, rfl, w0⟩ := open_string Try.underlying9 (hval 0 9 v0 rfl rfl) h0
  obtain ⟨a1, rfl, rfl, rfl, w1⟩ := open_string Try.underlying9 (hval 1 9 v1 rfl rfl) h1
  clear hA0 hval0
  simp only [List.append_nil] at hW'
  refine (walk a0 a1 w0 w1 W).mono fun e W' ⟨he, hg⟩ => ?_
  subst he
  exact ⟨_, rfl, post_of_same (pa := []) (pv := []) hW' (fun _ _ _ => (trodAll_cons_mk (shut_bool Try.underlying4 _) trodAll_mk0)) (fun sp _ => (trodAll_cons_mk (shut_string Try.underlying9 w0) (trodAll_cons_mk (shut_string Try.underlying9 w1) trodAll_mk0))) (fun _ _ => rfl) rfl
    (hg.frame _) hg.2.1 (ok_one (by kernel_rfl) rfl (okWide_bool_mk Try.underlying4 _))⟩

theorem over : Rows.fnMaximalSubpartExtensionKeepsRow.holds Try.pinned (OpenSpec.ofChange Rows.fnMaximalSubpartExtensionKeepsSpec) :=
  OpenClaim.holds_of_wide 9 Try.f9 rfl rfl rfl rfl rfl rfl rfl ⟨rfl, rfl, rfl, rfl, rfl⟩ rfl rfl rfl rfl rfl (by kernel_rfl) Try.func9 (by kernel_rfl)
    (of_decide_eq_true (by kernel_rfl)) (by unfold Func.isWrapper; first | (rw [if_pos (by decide +kernel)]; kernel_rfl) | (rw [if_neg (by decide +kernel)]; exact ⟨rfl, rfl⟩))
    (fun os started H enc _ => lifted os started H enc)

/-- ████ THE STATEMENT ████ -/
theorem proved : Rows.FnMaximalSubpartExtensionKeepsSaid :=
  over
end Go.Proofs.Qxb6000762a.fnMaximalSubpartExtensionKeeps
