/-
  The proof of 'Rows.FnIndexLiesIndexesEachLieBySenderSaid': the frame; the walk is Law's 'law_any', the opening Args'.
-/
import Derived.Test.Qxb6601175aArgs
import Derived.Test.Qxb6601175aLaw
set_option linter.unusedVariables false
namespace Go.Proofs.Qxb6601175a.fnIndexLiesIndexesEachLieBySender
open Go.ChangeShapes Go.WideShapes Go.ChangeAt Go.RowKit
open Go.Proofs.Qxb6601175a.Idx

theorem own : ownKnob Try.prog.godebug = none := by kernel_rfl
theorem laid : laidOutB Try.prog = true := by kernel_rfl
theorem read27 : Try.prog.readableRec 27 = true := by kernel_rfl
theorem read22 : Try.prog.readableRec 22 = true := by kernel_rfl
theorem row27 : 27 < Try.prog.types.size := of_decide_eq_true (by kernel_rfl)
theorem row22 : 22 < Try.prog.types.size := of_decide_eq_true (by kernel_rfl)

theorem below_of {W W' : World} (h : W.Since W.heap.size W') : Below W.heap.size W W' := ⟨h.os, h.tape, h.output, h.size, h.block⟩

/-! ### THE ROW's STEP -/
set_option maxRecDepth 100000 in
theorem lifted (os : Os) (started : os.Started) (H : Type) (enc : TypeId × Value → H) :
    ReturnsInHanded {} Try.checked os 3 .any (Rows.fnIndexLiesIndexesEachLieBySenderSpec.pre6 enc Try.prog Try.f3 Rows.fnIndexLiesIndexesEachLieBySenderRow.domain false) (Rows.fnIndexLiesIndexesEachLieBySenderSpec.post enc Try.prog Try.f3 false true false false) := by
  refine returnsInHanded_of_change (C := Try.checked) own started (by kernel_rfl) Try.func3
    (ChangeSpec.witness6 (enc := enc) (C := Try.checked) false ⟨#[], #[.agg #[.int .i64 0, .int .i64 0, .int .i64 0, .string ByteArray.empty, .slice none 0 0, .int .i64 0, .slice none 0 0, .string ByteArray.empty, .int .i64 0, .slice none 0 0, .slice none 0 0, .slice none 0 0, .int .i64 0], .slice none 0 0], []⟩ 8 (by kernel_rfl) (by kernel_rfl) (by kernel_rfl) (by kernel_rfl)) ?_
  intro W base args ds gs before hval0 hW hcnd _
  have hval : ∀ (j : Nat) t v, Try.f3.params[j]? = some t → args[j]? = some v → Value.okWide Try.prog W .any base t v := hval0
  have hW' := hW
  obtain ⟨p, q, hA0, hV, rfl, hfz, hnd⟩ := hW
  have hA : DataW.TrodAll enc Try.prog W 0 (fun _ => true) true Try.f3.params.toList args.toList ds p := hA0
  rw [Try.params3] at hA hval
  obtain ⟨v0, vs0, d0, ds0, p0, q0, hargs, rfl, rfl, h0, r0⟩ := trodAll_cons hA
  obtain ⟨v1, vs1, d1, ds1, p1, q1, hargs1, rfl, rfl, h1, r1⟩ := trodAll_cons r0
  obtain ⟨rfl, rfl, rfl⟩ := trodAll_nil r1
  obtain rfl : args = #[v0, v1] := by cases args; simp_all
  obtain ⟨rfl, rfl⟩ := trodVars_none hV
  obtain ⟨xs, rfl, hsz⟩ := okWide_struct Try.underlying27 (hval 0 27 v0 rfl rfl)
  obtain ⟨a1, n1, c1, rfl⟩ := okWide_slice Try.underlying22 (hval 1 22 _ rfl rfl)
  have h0k := h0
  have h1k := h1
  obtain ⟨f0, hf0⟩ := h0
  obtain ⟨f1, hf1⟩ := h1
  obtain ⟨c, O, no, co, sv, so, s, ft, fk, A, C, L, hcs, hv, hI⟩ := r_council (cs := xs.toList) (v := .slice a1 n1 c1) hf0 hf1
  obtain rfl : xs = c.arr := Array.ext' hcs
  obtain ⟨rfl, rfl, rfl⟩ : a1 = O ∧ n1 = no ∧ c1 = co := by simpa using hv
  clear hA0 hval0
  refine (law_any c a1 n1 c1 sv so s ft fk A C L W hI).mono fun e W' ⟨he, hs⟩ => ?_
  subst he
  have hb := below_of hs
  have hlt : ∀ x ∈ p0 ++ (p1 ++ []) ++ [], x.block < W.heap.size := fun x hx => hW'.lt x hx
  refine ⟨_, rfl, post_below (pa := p0 ++ (p1 ++ [])) (pv := []) hW' (fun _ _ _ => (trodAll_cons_mk (shut_bool Try.underlying4 _) trodAll_mk0)) (fun sp hsp => ?_) (fun _ _ => rfl) rfl hb (ok_one (by kernel_rfl) rfl (okWide_bool_mk Try.underlying4 _))⟩
  exact trodAll_cons_mk (WideElems.Trod_stays laid read27 row27 h0k (fun x hx => hb.same (hlt x (by simp [hx]))) (fun x hx => hsp x (by simp [hx])))
    (trodAll_cons_mk (WideElems.Trod_stays laid read22 row22 h1k (fun x hx => hb.same (hlt x (by simp [hx]))) (fun x hx => hsp x (by simp [hx]))) trodAll_mk0)

theorem over : Rows.fnIndexLiesIndexesEachLieBySenderRow.holds Try.pinned (OpenSpec.ofChange Rows.fnIndexLiesIndexesEachLieBySenderSpec) :=
  OpenClaim.holds_of_wide 3 Try.f3 rfl rfl rfl rfl rfl rfl rfl ⟨rfl, rfl, rfl, rfl, rfl⟩ rfl rfl rfl rfl rfl (by kernel_rfl) Try.func3 (by kernel_rfl)
    (of_decide_eq_true (by kernel_rfl)) (by unfold Func.isWrapper; first | (rw [if_pos (by decide +kernel)]; kernel_rfl) | (rw [if_neg (by decide +kernel)]; exact ⟨rfl, rfl⟩))
    (fun os started H enc _ => lifted os started H enc)

/-- ████ THE STATEMENT ████ -/
theorem proved : Rows.FnIndexLiesIndexesEachLieBySenderSaid :=
  over
end Go.Proofs.Qxb6601175a.fnIndexLiesIndexesEachLieBySender
