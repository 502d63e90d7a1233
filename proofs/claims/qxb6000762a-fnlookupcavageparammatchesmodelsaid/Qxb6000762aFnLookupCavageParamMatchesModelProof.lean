/-
  The proof of 'Rows.FnLookupCavageParamMatchesModelSaid': the frame is the guide's shell for this function; the walk and the plain law are ours.
-/
import Derived.Test.Qxb6000762aRows
import Derived.WalkKit
import Derived.ProofKit
import Derived.OpenShut
import Derived.ShutString
import Derived.Test.Qxb6000762aFold
namespace Go.Proofs.Qxb6000762a.fnLookupCavageParamMatchesModel
open Go.ChangeShapes Go.WideShapes Go.ChangeAt Go.RowKit
open Go.ChangeMaps (open_string shut_string)
set_option linter.unusedVariables false      -- a walk need not use every 'w<i>' (that an integer argument fits its kind)

theorem own : ownKnob Try.prog.godebug = none := by kernel_rfl

open Go.Proofs.Qxb6000762a.Msub

theorem bytes_ok (a0 : ByteArray) (h : a0.size ≤ 1048576) (w : World) :
    Calls Try.prog 10 #[.string a0] w fun e w' => e = .returned (.bool true) ∧ w' = w := by
  go_enter Try.func10, Try.ntmps10
  go_wp2
  go_ret
  exact ⟨rfl, rfl⟩
theorem bytes_no (a0 : ByteArray) (h : 1048576 < a0.size) (w0 : a0.size ≤ maxLen) (w : World) :
    Calls Try.prog 10 #[.string a0] w fun e w' => e = .returned (.bool false) ∧ w' = w := by
  unfold maxLen at w0
  go_enter Try.func10, Try.ntmps10
  go_wp2
  go_ret
  exact ⟨rfl, rfl⟩

theorem fold_is (a : ByteArray) (k : Nat) (b : Bool) (w0 : a.size ≤ 1048576) (h : feB a (cn k) = b) (w : World) :
    Calls Try.prog 12 #[.string a, .string (cn k)] w fun e w' => e = .returned (.bool b) ∧ Grown w w' := by
  have := fold_any a (cn k) w0 w
  rw [h] at this
  exact this

theorem zz_is (s : ByteArray) (p : Int) (b : Bool) (w0 : s.size ≤ maxLen) (h : p = lkI (Low s).toList ∧ b = lkB (Low s).toList) (w : World) :
    Calls Try.prog 11 #[.string s] w fun e w' => e = .returned (.tuple #[.int .u64 p, .bool b]) ∧ Grown w w' := by
  have := zzlk_any s w0 w
  rw [← h.1, ← h.2] at this
  exact this

theorem val_int {k : IntKind} {a b : Int} (h : a = b) : Value.int k a = .int k b := by rw [h]
theorem val_bool {a b : Bool} (h : a = b) : Value.bool a = .bool b := by rw [h]

/-- the name is one of the seven: the m-th -/
def fnd (m k : Nat) : Bool := decide (m < k)
def wnt (m k : Nat) : Int := if m < k then (m : Int) else 0
theorem fnd_same (m : Nat) : true = fnd m (m + 1) := (decide_eq_true (by omega)).symm
theorem wnt_same (m : Nat) : (m : Int) = wnt m (m + 1) := by unfold wnt; rw [if_pos (by omega)]
theorem fnd_other {m k : Nat} (h : k ≠ m) : fnd m k = fnd m (k + 1) := by
  unfold fnd
  by_cases c : m < k
  · rw [decide_eq_true c, decide_eq_true (by omega)]
  · rw [decide_eq_false c, decide_eq_false (by omega)]
theorem wnt_other {m k : Nat} (h : k ≠ m) : wnt m k = wnt m (k + 1) := by
  unfold wnt
  by_cases c : m < k
  · rw [if_pos c, if_pos (by omega)]
  · rw [if_neg c, if_neg (by omega)]
theorem fnd_end {m : Nat} (h : m < 7) : fnd m 7 = true := decide_eq_true h
theorem wnt_end {m : Nat} (h : m < 7) : wnt m 7 = (m : Int) := by unfold wnt; rw [if_pos h]

set_option maxRecDepth 100000 in
set_option maxHeartbeats 1000000 in
theorem walk_hit (a0 : ByteArray) (hs : a0.size ≤ 1048576) (m : Nat) (hm : m < 7) (hl : (Low a0).toList = kl m) (w : World) :
    Calls Try.prog 3 #[.string a0] w fun e w' => e = .returned (.bool true) ∧ Grown w w' := by
  have w0 : a0.size ≤ maxLen := by unfold maxLen; omega
  have HZ : Hid ((m : Int) = lkI (Low a0).toList ∧ true = lkB (Low a0).toList) := lk_at m hm hl
  have HF : Hid (∀ k, k < 7 → k ≠ m → feB a0 (cn k) = false) := fun k hk hne => Bool.eq_false_iff.2 fun e => hne (kl_inj hk hm (((name_iff a0 k hk).2 e).symm.trans hl))
  have HM : Hid (feB a0 (cn m) = true) := (name_iff a0 m hm).1 hl
  clear hl
  go_enter Try.func3, Try.ntmps3
  go_wp2_with (first | (go_at_call 10; refine (bytes_ok _ hs _).mono ?_; rintro e w' ⟨rfl, rfl⟩) | (go_at_call 11; refine (zz_is _ _ _ w0 HZ.out _).mono ?_; rintro e w1 ⟨rfl, hg1⟩))
  have HG1 : Hid (Grown w' w1) := hg1
  clear hg1
  go_loopw [5, 6, 7] (fun f q i wr => ∃ k : Nat, k ≤ 7 ∧ i = .int .u64 k ∧ f = .bool (fnd m k) ∧ q = .int .u64 (wnt m k) ∧ Grown w' wr) (fun _ _ i _ => 7 - (intOf i).toNat)
  case atStart => exact ⟨0, by omega, rfl, rfl, rfl, HG1.out⟩
  case round =>
    obtain ⟨k, hk, rfl, rfl, rfl, hg⟩ := hrel
    have HG : Hid (Grown w' wr) := hg
    clear hg
    by_cases hlt : k < 7
    · by_cases e : k = m
      · subst e
        go_wp2_with (first | (go_at_call 13; refine (cname_any _ hlt _).mono ?_; rintro e w2 ⟨rfl, rfl⟩) | (go_at_call 12; refine (fold_is _ _ _ hs HM.out _).mono ?_; rintro e w2 ⟨rfl, hg2⟩))
        go_roundw
        case rel => exact ⟨k + 1, by omega, by go_num, val_bool (fnd_same k), val_int (wnt_same k), grown_trans HG.out hg2⟩
        case measure => simp [intOf]; omega
      · have HE : Hid (k ≠ m) := e
        clear e
        go_wp2_with (first | (go_at_call 13; refine (cname_any _ hlt _).mono ?_; rintro e w2 ⟨rfl, rfl⟩) | (go_at_call 12; refine (fold_is _ _ _ hs (HF.out _ hlt HE.out) _).mono ?_; rintro e w2 ⟨rfl, hg2⟩))
        go_roundw
        case rel => exact ⟨k + 1, by omega, by go_num, val_bool (fnd_other HE.out), val_int (wnt_other HE.out), grown_trans HG.out hg2⟩
        case measure => simp [intOf]; omega
    · obtain rfl : k = 7 := by omega
      rw [fnd_end hm, wnt_end hm]
      go_wp2
      go_ret
      exact ⟨rfl, HG.out⟩

set_option maxRecDepth 100000 in
set_option maxHeartbeats 1000000 in
theorem walk_miss (a0 : ByteArray) (hs : a0.size ≤ 1048576) (hl : ∀ k, k < 7 → (Low a0).toList ≠ kl k) (w : World) :
    Calls Try.prog 3 #[.string a0] w fun e w' => e = .returned (.bool true) ∧ Grown w w' := by
  have w0 : a0.size ≤ maxLen := by unfold maxLen; omega
  have HZ : Hid (0 = lkI (Low a0).toList ∧ false = lkB (Low a0).toList) := lk_no hl
  have HF : Hid (∀ k, k < 7 → feB a0 (cn k) = false) := fun k hk => Bool.eq_false_iff.2 fun e => hl k hk ((name_iff a0 k hk).2 e)
  clear hl
  go_enter Try.func3, Try.ntmps3
  go_wp2_with (first | (go_at_call 10; refine (bytes_ok _ hs _).mono ?_; rintro e w' ⟨rfl, rfl⟩) | (go_at_call 11; refine (zz_is _ _ _ w0 HZ.out _).mono ?_; rintro e w1 ⟨rfl, hg1⟩))
  have HG1 : Hid (Grown w' w1) := hg1
  clear hg1
  go_loopw [5, 6, 7] (fun f q i wr => ∃ k : Nat, k ≤ 7 ∧ i = .int .u64 k ∧ f = .bool false ∧ q = .int .u64 0 ∧ Grown w' wr) (fun _ _ i _ => 7 - (intOf i).toNat)
  case atStart => exact ⟨0, by omega, rfl, rfl, rfl, HG1.out⟩
  case round =>
    obtain ⟨k, hk, rfl, rfl, rfl, hg⟩ := hrel
    have HG : Hid (Grown w' wr) := hg
    clear hg
    by_cases hlt : k < 7
    · go_wp2_with (first | (go_at_call 13; refine (cname_any _ hlt _).mono ?_; rintro e w2 ⟨rfl, rfl⟩) | (go_at_call 12; refine (fold_is _ _ _ hs (HF.out _ hlt) _).mono ?_; rintro e w2 ⟨rfl, hg2⟩))
      go_roundw
      case rel => exact ⟨k + 1, by omega, by go_num, rfl, rfl, grown_trans HG.out hg2⟩
      case measure => simp [intOf]; omega
    · obtain rfl : k = 7 := by omega
      go_wp2
      go_ret
      exact ⟨rfl, HG.out⟩

/-! ### STEP 1: THE WALK -/
theorem walk (a0 : ByteArray) (w0 : a0.size ≤ maxLen) (w : World) :
    Calls Try.prog 3 #[.string a0] w fun e w' => e = .returned (.bool true) ∧ Grown w w' := by
  by_cases hs : a0.size ≤ 1048576
  · by_cases h : ∃ m, m < 7 ∧ (Low a0).toList = kl m
    · obtain ⟨m, hm, hl⟩ := h
      exact walk_hit a0 hs m hm hl w
    · exact walk_miss a0 hs (fun k hk hl => h ⟨k, hk, hl⟩) w
  · have hs' : 1048576 < a0.size := by omega
    clear hs
    go_enter Try.func3, Try.ntmps3
    go_wp2_with (go_at_call 10; refine (bytes_no _ hs' w0 _).mono ?_; rintro e w' ⟨rfl, rfl⟩)
    go_ret
    exact ⟨rfl, Grown.refl _⟩

/-! ### THE ROW's STEP -/
set_option maxRecDepth 100000 in
theorem lifted (os : Os) (started : os.Started) (H : Type) (enc : TypeId × Value → H) :
    ReturnsInHanded {} Try.checked os 3 .any (Rows.fnLookupCavageParamMatchesModelSpec.pre6 enc Try.prog Try.f3 Rows.fnLookupCavageParamMatchesModelRow.domain false) (Rows.fnLookupCavageParamMatchesModelSpec.post enc Try.prog Try.f3 false true false false) := by
  refine returnsInHanded_of_change (C := Try.checked) own started (by kernel_rfl) Try.func3
    (ChangeSpec.witness6 (enc := enc) (C := Try.checked) false ⟨#[], #[.string ByteArray.empty], []⟩ 8 (by kernel_rfl) (by kernel_rfl) (by kernel_rfl) (by kernel_rfl)) ?_
  intro W base args ds gs before hval0 hW hcnd _
  have hval : ∀ (j : Nat) t v, Try.f3.params[j]? = some t → args[j]? = some v → Value.okWide Try.prog W .any base t v := hval0
  have hW' := hW
  obtain ⟨p, q, hA0, hV, rfl, hfz, hnd⟩ := hW
  have hA : DataW.TrodAll enc Try.prog W 0 (fun _ => true) true Try.f3.params.toList args.toList ds p := hA0
  rw [Try.params3] at hA hval
  obtain ⟨v0, vs0, d0, ds0, p0, q0, hargs, rfl, rfl, h0, r0⟩ := trodAll_cons hA
  obtain ⟨rfl, rfl, rfl⟩ := trodAll_nil r0
  obtain rfl : args = #[v0] := by cases args; simp_all
  obtain ⟨rfl, rfl⟩ := trodVars_none hV
  obtain ⟨a0, rfl, rfl, rfl, w0⟩ := open_string Try.underlying9 (hval 0 9 v0 rfl rfl) h0
  clear hA0 hval0
  simp only [List.append_nil] at hW'
  refine (walk a0 w0 W).mono fun e W' ⟨he, hg⟩ => ?_
  subst he
  exact ⟨_, rfl, post_of_same (pa := []) (pv := []) hW' (fun _ _ _ => (trodAll_cons_mk (shut_bool Try.underlying4 _) trodAll_mk0)) (fun sp _ => (trodAll_cons_mk (shut_string Try.underlying9 w0) trodAll_mk0)) (fun _ _ => rfl) rfl
    (hg.frame _) hg.2.1 (ok_one (by kernel_rfl) rfl (okWide_bool_mk Try.underlying4 _))⟩

theorem over : Rows.fnLookupCavageParamMatchesModelRow.holds Try.pinned (OpenSpec.ofChange Rows.fnLookupCavageParamMatchesModelSpec) :=
  OpenClaim.holds_of_wide 3 Try.f3 rfl rfl rfl rfl rfl rfl rfl ⟨rfl, rfl, rfl, rfl, rfl⟩ rfl rfl rfl rfl rfl (by kernel_rfl) Try.func3 (by kernel_rfl)
    (of_decide_eq_true (by kernel_rfl)) (by unfold Func.isWrapper; first | (rw [if_pos (by decide +kernel)]; kernel_rfl) | (rw [if_neg (by decide +kernel)]; exact ⟨rfl, rfl⟩))
    (fun os started H enc _ => lifted os started H enc)

/-- ████ THE STATEMENT ████ -/
theorem proved : Rows.FnLookupCavageParamMatchesModelSaid :=
  over
end Go.Proofs.Qxb6000762a.fnLookupCavageParamMatchesModel
