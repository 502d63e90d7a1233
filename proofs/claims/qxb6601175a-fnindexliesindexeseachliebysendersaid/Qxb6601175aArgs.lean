/-
  The law's two arguments, opened whole; what is asked behind the call.
-/
import Derived.Test.Qxb6601175aOpen
import Derived.Test.Qxb6601175aKnow
import Derived.ChangeSame
import Derived.Carry
import Derived.RowKit
set_option linter.unusedVariables false
namespace Go.Proofs.Qxb6601175a.Idx
open Go.ChangeShapes Go.WideShapes Go.ChangeAt Go.RowKit

section
variable {H : Type} {enc : TypeId × Value → H} {w : World} {spare : Nat → Bool} {held : Bool} {fuel fuel' : Nat} {cs : List Value} {x x' : DataW H × List MemPlace}

theorem r_council {v : Value} (h : DataW.trod enc Try.prog w 0 spare held fuel 27 cs = some x) (h' : DataW.trod enc Try.prog w 0 spare held fuel' 22 [v] = some x') :
    ∃ (c : Cn) (O : Option Addr) (no co : Nat) (sv so s : Nat → ByteArray) (ft fk : Nat → Int) (A : Nat → Option Addr) (C : Nat → Nat) (L : Nat → Lie), cs = c.arr.toList ∧ v = .slice O no co ∧ Inp w c O no sv so s ft fk A C L := by
  have hlen := fld_len Try.underlying27 h
  rw [cells27] at hlen
  match hcs : cs, hlen with
  | [u0, u1, u2, u3, u4, u5, u6, u7, u8, u9, u10, u11, u12], _ =>
    obtain ⟨n0, y0, e0⟩ := fld Try.underlying27 h 0 3 0 1 rfl cells3
    obtain ⟨n1, y1, e1⟩ := fld Try.underlying27 h 1 3 1 1 rfl cells3
    obtain ⟨n2, y2, e2⟩ := fld Try.underlying27 h 2 3 2 1 rfl cells3
    obtain ⟨n3, y3, e3⟩ := fld Try.underlying27 h 3 9 3 1 rfl cells9
    obtain ⟨n4, y4, e4⟩ := fld Try.underlying27 h 4 22 4 1 rfl cells22
    obtain ⟨n5, y5, e5⟩ := fld Try.underlying27 h 5 3 5 1 rfl cells3
    obtain ⟨n6, y6, e6⟩ := fld Try.underlying27 h 6 22 6 1 rfl cells22
    obtain ⟨n7, y7, e7⟩ := fld Try.underlying27 h 7 9 7 1 rfl cells9
    obtain ⟨n8, y8, e8⟩ := fld Try.underlying27 h 8 3 8 1 rfl cells3
    obtain ⟨n9, y9, e9⟩ := fld Try.underlying27 h 9 23 9 1 rfl cells23
    obtain ⟨n10, y10, e10⟩ := fld Try.underlying27 h 10 24 10 1 rfl cells24
    obtain ⟨n11, y11, e11⟩ := fld Try.underlying27 h 11 25 11 1 rfl cells25
    obtain ⟨n12, y12, e12⟩ := fld Try.underlying27 h 12 3 12 1 rfl cells3
    have g0 := r_int (v := u0) e0
    have g1 := r_int (v := u1) e1
    have g2 := r_int (v := u2) e2
    have g3 := r_str (v := u3) e3
    obtain ⟨vA, vn, vc, sv, g4, v0, vb, vS, vs⟩ := r_strs (v := u4) e4
    have g5 := r_int (v := u5) e5
    obtain ⟨oA, on, oc, so, g6, o0, ob, oS, os⟩ := r_strs (v := u6) e6
    have g7 := r_str (v := u7) e7
    have g8 := r_int (v := u8) e8
    obtain ⟨tA, tn, tc, ft, g9, t0, tb, tS⟩ := r_ints (v := u9) e9
    obtain ⟨lA, ln, lc, A, C, L, g10, l0, lb, lI, ls, lp⟩ := r_lies (v := u10) e10
    obtain ⟨kA, kn, kc, fk, g11, k0, kb, kS⟩ := r_pairs (v := u11) e11
    have g12 := r_int (v := u12) e12
    obtain ⟨O, no, co, s, gO, O0, Ob, OS, Os⟩ := r_strs h'
    refine ⟨⟨intV u0, intV u1, intV u2, strV u3, vA, vn, vc, intV u5, oA, on, oc, strV u7, intV u8, tA, tn, tc, lA, ln, lc, kA, kn, kc, intV u12⟩, O, no, co, sv, so, s, ft, fk, A, C, L, ?_, gO, ?_⟩
    · show [u0, u1, u2, u3, u4, u5, u6, u7, u8, u9, u10, u11, u12] = [_, _, _, _, _, _, _, _, _, _, _, _, _]
      simp only [List.cons.injEq, and_true]
      exact ⟨g0, g1, g2, g3.1, g4, g5, g6, g7.1, g8, g9, g10, g11, g12⟩
    · exact { hod := g3.2, hdf := g7.2, hvn := vb, hon := ob, htn := tb, hln := lb, hkn := kb, hno := Ob, V := vS, Vs := vs, V0 := v0, Os := oS, Oz := os, O0 := o0, S := OS, Ss := Os, S0 := O0, T := tS, T0 := t0, Kk := kS, K0 := k0, Li := lI, L0 := l0, Ls := ls, Lp := lp }
end

section
variable {H : Type} {enc : TypeId × Value → H} {P : Program}
/-- 'post' where old memory is as it was: the arguments read as they did -/
theorem post_below {f : Func} {s : ChangeSpec} {apart fresh handsOn again : Bool} {W W' : World} {args : Array Value} {v : Value} {ds gs : List (DataW H)} {before pa pv : List MemPlace}
    (hW : DataW.Whole enc P f.params.toList s.vars apart W args.toList ds gs before)
    (hres : ∀ (b : Nat) (sp : Nat → Bool) (hd : Bool), DataW.TrodAll enc P W' b sp hd f.resultTypes.toList (v.resultList f.resultTypes.size) (s.fn H (ds ++ gs)).results [])
    (hargs : ∀ sp : Nat → Bool, (∀ p ∈ before, sp p.block = true) → DataW.TrodAll enc P W' 0 sp true f.params.toList args.toList (s.fn H (ds ++ gs)).args pa)
    (hvars : ∀ sp : Nat → Bool, (∀ p ∈ before, sp p.block = true) → DataW.TrodVars enc P W' sp s.vars (s.fn H (ds ++ gs)).vars pv)
    (hps : before = pa ++ pv) (hb : Below W.heap.size W W')
    (hok : ∀ (j : Nat) (t : TypeId) (r : Value), f.resultTypes[j]? = some t → (v.resultList f.resultTypes.size)[j]? = some r → Value.okWide P W' .any 0 t r) :
    s.post enc P f apart fresh handsOn again W args v W' := by
  have hold : ∀ p ∈ before, (fun b => decide (b < W.heap.size)) p.block = true := fun p hp => by simpa using hW.lt p hp
  have hlt : ∀ p ∈ before, p.block < W.heap.size := fun p hp => hW.lt p hp
  refine ⟨ds, gs, before, [], pa, pv, hW, hres _ _ _, hargs _ hold, hvars _ hold, World.keptBut_mono (fun p hp => ⟨hp, ?_⟩) (hb.frame (· ∈ before)), fun _ => ?_⟩
  · rw [hps, List.mem_append] at hp
    exact Or.inr hp
  · obtain ⟨_, _, _, _, _, hz, hn⟩ := hW
    refine ⟨hok, _, _, ([] ++ pa) ++ pv, ⟨[] ++ pa, pv, trodAll_append (hargs _ (fun _ _ => rfl)) (hres _ _ _), hvars _ (fun _ _ => rfl), rfl, ?_, ?_⟩, ?_⟩
    · intro b off hp
      have hp' : MemPlace.cell b off ∈ before := by rw [hps]; simpa using hp
      rw [hb.frozen (by exact hlt _ hp')]
      exact hz b off hp'
    · intro ha
      have := hn ha
      rw [hps] at this
      simpa using this
    · intro p hp _
      rw [hps]
      simpa using hp
end
end Go.Proofs.Qxb6601175a.Idx
