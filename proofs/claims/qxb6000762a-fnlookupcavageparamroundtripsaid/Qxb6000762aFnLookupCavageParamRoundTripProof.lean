/-
  The proof of 'Rows.FnLookupCavageParamRoundTripSaid': the frame is the guide's shell for this function; the walk and the plain law are ours.
-/
import Derived.Test.Qxb6000762aRows
import Derived.WalkKit
import Derived.ProofKit
import Derived.OpenShut
import Derived.ShutString
import Derived.Deep.OwnRows
import Derived.Test.Qxb6000762aFold
namespace Go.Proofs.Qxb6000762a.fnLookupCavageParamRoundTrip
open Go.ChangeShapes Go.WideShapes Go.ChangeAt Go.RowKit
open Go.ChangeMaps (open_string shut_string)
set_option linter.unusedVariables false      -- a walk need not use every 'w<i>' (that an integer argument fits its kind)

theorem own : ownKnob Try.prog.godebug = none := by kernel_rfl

open Go.Proofs.Qxb6000762a.Msub

theorem zz_is (s : ByteArray) (p : Int) (b : Bool) (w0 : s.size ≤ maxLen) (h : p = lkI (Low s).toList ∧ b = lkB (Low s).toList) (w : World) :
    Calls Try.prog 11 #[.string s] w fun e w' => e = .returned (.tuple #[.int .u64 p, .bool b]) ∧ Grown w w' := by
  have := zzlk_any s w0 w
  rw [← h.1, ← h.2] at this
  exact this

/-! ### Plain: what becomes of one letter -/
/-- v is letter j of name m, in either case -/
def Is (m j : Nat) (v : Int) : Prop := 0 ≤ v ∧ v ≤ 255 ∧ orI v = bl (kl m) j

theorem is_of {m j : Nat} {v : Int} (hm : m < 7) (hj : j < (cn m).size) (h : v = bt (cn m) j ∨ v = lwI (bt (cn m) j) ∨ (97 ≤ bt (cn m) j ∧ v = upI (bt (cn m) j))) : Is m j v := by
  have h9 := cl_len m hm
  rw [cn_size] at hj
  have l := (letters m hm).2 ⟨j, by omega⟩ hj
  simp only at l
  rw [bt_cn] at h
  obtain ⟨l1, l2, l3, l4⟩ := l
  rw [l1] at h
  unfold upI at h
  unfold Is orI
  split at h <;> (refine ⟨by omega, by omega, ?_⟩; split <;> omega)

/-- the array b behind k rounds -/
def Arr5 (w wr : World) (m k : Nat) (f : Nat → Int) : Prop :=
  (∀ j : Nat, j < (cn m).size → wr.cell? ⟨w.heap.size, j, none⟩ = some (.int .u8 (f j))) ∧ (∀ j : Nat, j < (cn m).size → wr.frozen? ⟨w.heap.size, j, none⟩ = false) ∧ (∀ j, j < k → Is m j (f j)) ∧ Grown w wr

theorem arr5_start (w : World) (m : Nat) : Arr5 w (w.alloc (.cells (madeCells #[.int .u8 0] (cn m).size) 5)) m 0 (fun _ => 0) := by
  refine ⟨fun j hj => ?_, fun j hj => ?_, fun j hj => absurd hj (by omega), (Grown.refl w).alloc _ _⟩
  · rw [World.cell?_alloc_new]
    simp [madeCells, hj, Nat.mod_one]
  · rw [frozen?_alloc_cells]
    simp [World.frozen?]

theorem arr5_step {w wr : World} {m k : Nat} {f : Nat → Int} (h : Arr5 w wr m k f) (hk : k < (cn m).size) (v : Int) (hv : Is m k v) :
    Arr5 w (wr.setCell ⟨w.heap.size, k, none⟩ (.int .u8 v)) m (k + 1) (fun j => if j = k then v else f j) := by
  obtain ⟨h1, h2, h3, h4⟩ := h
  refine ⟨fun j hj => ?_, fun j hj => ?_, fun j hj => ?_, h4.setCell (Nat.le_refl _) _⟩
  · by_cases e : j = k
    · subst e
      rw [World.cell?_setCell_same _ _ _ (h1 j hj)]; simp
    · rw [World.cell?_setCell_other _ _ _ _ (by intro h; simp only [Addr.mk.injEq] at h; omega), h1 j hj]; simp [e]
  · rw [World.frozen?_setCell]; exact h2 j hj
  · by_cases e : j = k
    · subst e; simpa using hv
    · simpa [e] using h3 j (by omega)

/-- the flipped string -/
def fs (m : Nat) (f : Nat → Int) : ByteArray := strOfNums ((List.range (cn m).size).map f)

theorem arr5_conv {w wr : World} {m k : Nat} {f : Nat → Int} (h : Arr5 w wr m k f) :
    ∀ dst, Try.prog.underlying dst = some .string → (convert 30 dst (.slice (some ⟨w.heap.size, 0, none⟩) (cn m).size (cn m).size)).run Try.prog wr = .ok (.string (fs m f)) wr := by
  refine run_convert_bytes_arg (P := Try.prog) wr 30 5 Try.underlying30 Try.underlying5 w.heap.size 0 (cn m).size (cn m).size ((List.range (cn m).size).map f) (by simp) fun i hi => ?_
  rw [Nat.zero_add, h.1 i hi, List.getD_eq_getElem?_getD]
  simp only [List.getElem?_map, List.getElem?_range hi, Option.map_some, Option.getD_some]

theorem fs_low {m : Nat} {f : Nat → Int} (hm : m < 7) (h : ∀ j, j < (cn m).size → Is m j (f j)) : (Low (fs m f)).toList = kl m := by
  rw [low_iff, (letters m hm).1]
  have hz : (fs m f).size = (cl m).length := by unfold fs; rw [strOfNums_size]; simp [cn_size]
  refine ⟨hz, fun i hi => ?_⟩
  obtain ⟨h1, h2, h3⟩ := h i hi
  have e : bt (fs m f) i = f i := by
    show (((strOfNums ((List.range (cn m).size).map f)).data.toList.getD i 0).toNat : Int) = _
    rw [strOfNums_data, List.getD_eq_getElem?_getD]
    have hi' : i < (cn m).size := hi
    simp only [List.getElem?_map, List.getElem?_range hi', Option.map_some, Option.getD_some]
    generalize f i = x at *
    obtain ⟨n, rfl⟩ := Int.eq_ofNat_of_zero_le h1
    simp only [Int.toNat_natCast]
    rw [UInt8.toNat_ofNat']
    omega
  rw [e, h3]

theorem info5 : (Try.prog.info? 5).map (fun i => (i.zero, i.size, i.bytes)) = some (some (.int .u8 0), 1, 1) := by kernel_rfl

set_option maxRecDepth 100000 in
set_option maxHeartbeats 1000000 in
theorem walk_in (m : Nat) (hm : m < 7) (a1 : Int) (b0 : 0 ≤ a1) (b1 : a1 ≤ 18446744073709551615) (w : World) :
    Calls Try.prog 5 #[.int .u64 m, .int .u64 a1] w fun e w' => e = .returned (.bool true) ∧ Grown w w' := by
  have hc9 : (cn m).size ≤ 9 := by rw [cn_size]; exact cl_len m hm
  have hmk := fun W => run_make_row' (P := Try.prog) 30 5 (.int .u8 0) 1 Try.underlying30 info5 rfl .i64 .i64 (cn m).size (by omega) (by omega) W
  go_enter Try.func5, Try.ntmps5
  go_wp2_with (go_at_call 13; refine (cname_any _ hm _).mono ?_; rintro e w' ⟨rfl, rfl⟩)
  go_loopw [7, 8] (fun i _ wr => ∃ k : Nat, ∃ f : Nat → Int, k ≤ (cn m).size ∧ i = .int .i64 k ∧ Arr5 w' wr m k f) (fun i _ _ => (cn m).size - (intOf i).toNat)
  case atStart => exact ⟨0, _, Nat.zero_le _, rfl, arr5_start w' m⟩
  case round =>
    obtain ⟨k, f, hk, rfl, hA⟩ := hrel
    by_cases hlt : k < (cn m).size
    · have ek := bt_get (cn m) k hlt
      have hb := bt_bd (cn m) k
      have hck := hA.1 k (by omega)
      have hfk := hA.2.1 k (by omega)
      have HA : Hid (Arr5 w' wr m k f) := hA
      have h0 := hb.1
      have h1 := hb.2
      clear hA hb
      go_wp2_with (first | (go_at_call 16; refine (upper_any _ h0 h1 _).mono ?_; rintro e w3 ⟨rfl, rfl⟩) | (go_at_call 17; refine (lower_any _ h0 h1 _).mono ?_; rintro e w3 ⟨rfl, rfl⟩))
      · go_roundw
        case rel => exact ⟨k + 1, _, by omega, by go_num, arr5_step HA.out hlt _ (is_of hm hlt (.inr (.inr ⟨by omega, rfl⟩)))⟩
        case measure => simp [intOf]; omega
      · go_roundw
        case rel => exact ⟨k + 1, _, by omega, by go_num, arr5_step HA.out hlt _ (is_of hm hlt (.inr (.inl rfl)))⟩
        case measure => simp [intOf]; omega
      · go_roundw
        case rel => exact ⟨k + 1, _, by omega, by go_num, arr5_step HA.out hlt _ (is_of hm hlt (.inr (.inl rfl)))⟩
        case measure => simp [intOf]; omega
      · go_roundw
        case rel => exact ⟨k + 1, _, by omega, by go_num, arr5_step HA.out hlt _ (is_of hm hlt (.inl rfl))⟩
        case measure => simp [intOf]; omega
    · obtain rfl : k = (cn m).size := by omega
      have hconv := arr5_conv hA
      have HG : Hid (Grown w' wr) := hA.2.2.2
      have HL : Hid ((m : Int) = lkI (Low (fs m f)).toList ∧ true = lkB (Low (fs m f)).toList) := lk_at m hm (fs_low hm hA.2.2.1)
      have hz : (fs m f).size ≤ maxLen := by unfold fs; rw [strOfNums_size]; simp [maxLen]; omega
      clear hA
      go_wp2_with (go_at_call 11; refine (zz_is _ _ _ hz HL.out _).mono ?_; rintro e w2 ⟨rfl, hg2⟩)
      go_ret
      exact ⟨rfl, grown_trans HG.out hg2⟩

/-! ### STEP 1: THE WALK -/
theorem walk (a0 : Int) (a1 : Int) (w0 : (Lit.int .u64 a0).wf = true) (w1 : (Lit.int .u64 a1).wf = true) (w : World) :
    Calls Try.prog 5 #[.int .u64 a0, .int .u64 a1] w fun e w' => e = .returned (.bool true) ∧ Grown w w' := by
  have hb0 := bounds_u64 w0
  have hb1 := bounds_u64 w1
  by_cases h : a0 < 7
  · obtain ⟨m, rfl⟩ := Int.eq_ofNat_of_zero_le hb0.1
    exact walk_in m (by omega) a1 (by omega) (by omega) w
  · have h' : 7 ≤ a0 := by omega
    clear h hb0 hb1
    go_enter Try.func5, Try.ntmps5
    go_wp2
    go_ret
    exact ⟨rfl, Grown.refl _⟩

/-! ### THE ROW's STEP -/
set_option maxRecDepth 100000 in
theorem lifted (os : Os) (started : os.Started) (H : Type) (enc : TypeId × Value → H) :
    ReturnsInHanded {} Try.checked os 5 .any (Rows.fnLookupCavageParamRoundTripSpec.pre6 enc Try.prog Try.f5 Rows.fnLookupCavageParamRoundTripRow.domain false) (Rows.fnLookupCavageParamRoundTripSpec.post enc Try.prog Try.f5 false true false false) := by
  refine returnsInHanded_of_change (C := Try.checked) own started (by kernel_rfl) Try.func5
    (ChangeSpec.witness6 (enc := enc) (C := Try.checked) false ⟨#[], #[.int .u64 0, .int .u64 0], []⟩ 8 (by kernel_rfl) (by kernel_rfl) (by kernel_rfl) (by kernel_rfl)) ?_
  intro W base args ds gs before hval0 hW hcnd _
  have hval : ∀ (j : Nat) t v, Try.f5.params[j]? = some t → args[j]? = some v → Value.okWide Try.prog W .any base t v := hval0
  have hW' := hW
  obtain ⟨p, q, hA0, hV, rfl, hfz, hnd⟩ := hW
  have hA : DataW.TrodAll enc Try.prog W 0 (fun _ => true) true Try.f5.params.toList args.toList ds p := hA0
  rw [Try.params5] at hA hval
  obtain ⟨v0, vs0, d0, ds0, p0, q0, hargs, rfl, rfl, h0, r0⟩ := trodAll_cons hA
  obtain ⟨v1, vs1, d1, ds1, p1, q1, rfl, rfl, rfl, h1, r1⟩ := trodAll_cons r0
  obtain ⟨rfl, rfl, rfl⟩ := trodAll_nil r1
  obtain rfl : args = #[v0, v1] := by cases args; simp_all
  obtain ⟨rfl, rfl⟩ := trodVars_none hV
  obtain ⟨a0, rfl, rfl, rfl, w0⟩ := open_int Try.underlying23 (hval 0 23 v0 rfl rfl) h0
  obtain ⟨a1, rfl, rfl, rfl, w1⟩ := open_int Try.underlying29 (hval 1 29 v1 rfl rfl) h1
  clear hA0 hval0
  simp only [List.append_nil] at hW'
  refine (walk a0 a1 w0 w1 W).mono fun e W' ⟨he, hg⟩ => ?_
  subst he
  exact ⟨_, rfl, post_of_same (pa := []) (pv := []) hW' (fun _ _ _ => (trodAll_cons_mk (shut_bool Try.underlying4 _) trodAll_mk0)) (fun sp _ => (trodAll_cons_mk (shut_int Try.underlying23 w0) (trodAll_cons_mk (shut_int Try.underlying29 w1) trodAll_mk0))) (fun _ _ => rfl) rfl
    (hg.frame _) hg.2.1 (ok_one (by kernel_rfl) rfl (okWide_bool_mk Try.underlying4 _))⟩

theorem over : Rows.fnLookupCavageParamRoundTripRow.holds Try.pinned (OpenSpec.ofChange Rows.fnLookupCavageParamRoundTripSpec) :=
  OpenClaim.holds_of_wide 5 Try.f5 rfl rfl rfl rfl rfl rfl rfl ⟨rfl, rfl, rfl, rfl, rfl⟩ rfl rfl rfl rfl rfl (by kernel_rfl) Try.func5 (by kernel_rfl)
    (of_decide_eq_true (by kernel_rfl)) (by unfold Func.isWrapper; first | (rw [if_pos (by decide +kernel)]; kernel_rfl) | (rw [if_neg (by decide +kernel)]; exact ⟨rfl, rfl⟩))
    (fun os started H enc _ => lifted os started H enc)

/-- ████ THE STATEMENT ████ -/
theorem proved : Rows.FnLookupCavageParamRoundTripSaid :=
  over
end Go.Proofs.Qxb6000762a.fnLookupCavageParamRoundTrip
