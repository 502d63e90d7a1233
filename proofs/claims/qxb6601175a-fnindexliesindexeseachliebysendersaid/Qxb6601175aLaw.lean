/-
  The law FnIndexLiesIndexesEachLieBySender: the walk.
-/
import Derived.Test.Qxb6601175aPos
set_option linter.unusedVariables false
namespace Go.Proofs.Qxb6601175a.Idx
open Go.ChangeShapes Go.WideShapes Go.ChangeAt Go.RowKit
attribute [local go_sem] eq_pair guard30 neq65 eq65 neq65n

set_option maxRecDepth 100000 in
set_option maxHeartbeats 40000000 in
theorem law_any (c : Cn) (O : Option Addr) (no co : Nat) (sv so s : Nat → ByteArray) (ft fk : Nat → Int) (A : Nat → Option Addr) (C : Nat → Nat) (L : Nat → Lie) (w : World) (h : Inp w c O no sv so s ft fk A C L) :
    Calls Try.prog 3 #[.agg c.arr, .slice O no co] w fun e w' => e = .returned (.bool true) ∧ w.Since w.heap.size w' := by
  have H : Hid (Inp w c O no sv so s ft fk A C L) := h
  clear h
  go_enter Try.func3, Try.ntmps3
  go_upto_region 1 with fail
  have hW0 : w.Since w.heap.size (w.alloc (.cells c.arr 27)) := (World.Since.refl _ _).alloc (Nat.le_refl _) _
  have hbox := box_row w c
  generalize w.alloc (.cells c.arr 27) = W1 at *
  have H1 : Hid (Inp W1 c O no sv so s ft fk A C L) := H.out.since hW0
  have HW1 : Hid (w.Since w.heap.size W1) := hW0
  have HB1 : Hid (W1.rowIs w.heap.size 27 13 (fun i => c.arr.getD i undef)) := hbox
  obtain ⟨k0, k1, k2, k3, k4, k5, k6, k7, k8, k9, k10, k11, k12⟩ := box13 hbox
  clear hW0 hbox
  go_wp2_with fail
  refine (bytes_inp H1.out co).mono ?_
  rintro e W2 ⟨hr, hs⟩
  have HW2 : Hid (w.Since w.heap.size W2) := sinceT HW1.out hs HW1.out.size
  have HB2 : Hid (W2.rowIs w.heap.size 27 13 (fun i => c.arr.getD i undef)) := rowS HB1.out hs
  have H2 : Hid (Inp W2 c O no sv so s ft fk A C L) := H1.out.since hs
  clear hs k0 k1 k2 k3 k4 k5 k6 k7 k8 k9 k10 k11 k12
  rcases hr with rfl | ⟨rfl, hbd⟩
  · go_wp2
    go_ret
    exact ⟨rfl, HW2.out⟩
  · have HBD : Hid (Bnd c no L) := hbd
    clear hbd
    obtain ⟨k0, k1, k2, k3, k4, k5, k6, k7, k8, k9, k10, k11, k12⟩ := box13 HB2.out
    go_wp2_with fail
    refine (cbytes_inp H2.out co).mono ?_
    rintro e W3 ⟨⟨r, rfl⟩, hs⟩
    have HW3 : Hid (w.Since w.heap.size W3) := sinceT HW2.out hs HW2.out.size
    have HB3 : Hid (W3.rowIs w.heap.size 27 13 (fun i => c.arr.getD i undef)) := rowS HB2.out hs
    have H3 : Hid (Inp W3 c O no sv so s ft fk A C L) := H2.out.since hs
    clear hs k0 k1 k2 k3 k4 k5 k6 k7 k8 k9 k10 k11 k12
    obtain ⟨k0, k1, k2, k3, k4, k5, k6, k7, k8, k9, k10, k11, k12⟩ := box13 HB3.out
    by_cases hr : 1048576 < r
    · go_wp2
      go_ret
      exact ⟨rfl, HW3.out⟩
    · by_cases hG0 : c.G < 0
      · go_wp2
        go_ret
        exact ⟨rfl, HW3.out⟩
      · by_cases hG1 : 65536 < c.G
        · go_wp2
          go_ret
          exact ⟨rfl, HW3.out⟩
        · go_upto_block 0 with fail
          clear k0 k1 k2 k3 k4 k5 k6 k7 k8 k9 k10 k11 k12
          go_cut [5, 6, 7] from 47 to 81 (fun _ _ _ wx => W3.Since W3.heap.size wx ∧ ∀ m, m < c.ln → Vd c.G (L m))
          case first => as_aux_lemma =>
            rename_i J0 K0 hJK hMK
            -- [[A
            go_wp2_with fail
            go_loopw [5, 6, 7] (fun i _ _ wr => ∃ k : Nat, k ≤ c.ln ∧ i = .int .i64 k ∧ W3.Since W3.heap.size wr ∧ ∀ m, m < k → Vd c.G (L m)) (fun i _ _ _ => c.ln - (intOf i).toNat)
            case atStart => exact ⟨0, Nat.zero_le _, rfl, World.Since.refl _ _, fun m hm => absurd hm (by omega)⟩
            case round =>
              obtain ⟨k, hk, rfl, hs, hvd⟩ := hrel
              have HV : Hid (∀ m, m < k → Vd c.G (L m)) := hvd
              have HI : Hid (Inp wr c O no sv so s ft fk A C L) := H3.out.since hs
              have HB4 : Hid (wr.rowIs w.heap.size 27 13 (fun i => c.arr.getD i undef)) := rowS HB3.out hs
              have HS4 : Hid (W3.Since W3.heap.size wr) := hs
              have HW4 : Hid (w.Since w.heap.size wr) := sinceT HW3.out hs HW3.out.size
              obtain ⟨k0, k1, k2, k3, k4, k5, k6, k7, k8, k9, k10, k11, k12⟩ := box13 HB4.out
              have hln := HBD.out.2.2.2.1
              clear hvd hs k1 k2 k3 k4 k5 k6 k7 k8 k9 k11 k12
              have hbw : w.heap.size < wr.heap.size := HB4.out.lt
              by_cases hlt : k < c.ln
              · obtain ⟨b, off, hlA, hli⟩ := HI.out.Li (by omega)
                rw [hlA] at k10
                obtain ⟨e0, e1, e2, e3, e4, e5, e6, e7, e8⟩ := hli.nine hlt
                have hbl : b < wr.heap.size := World.block_lt_of_cell? wr _ e0
                have hlk := HBD.out.2.2.2.2.2.2 k hlt
                have HP : Hid (PathR wr (A k) (L k)) := HI.out.Lp k hlt
                clear hli hlA
                generalize hLk : L k = l at *
                generalize A k = Ak at *
                generalize C k = Ck at *
                have hal : ∀ o, w.Since w.heap.size (wr.alloc o) := fun o => sinceT HW4.out ((World.Since.refl _ _).alloc (Nat.le_refl _) o) HW4.out.size
                have HAL : Hid (∀ o, w.Since w.heap.size (wr.alloc o)) := hal
                clear hal
                by_cases f0 : l.fr < 0
                · go_wp2
                  go_ret
                  exact ⟨rfl, HAL.out _⟩
                · by_cases f1 : c.G < l.fr
                  · go_wp2
                    go_ret
                    exact ⟨rfl, HAL.out _⟩
                  · by_cases f2 : l.fr = 0
                    · have f2' : (l.fr == 0) = true := by simp [f2]
                      have HF : Hid (l.fr = 0) := f2
                      clear f2
                      go_wp2_with fail
                      refine (zsend_any Ak Ck l _ (by assumption) (HP.out.since ((World.Since.refl _ _).alloc (Nat.le_refl _) _) (Nat.le_refl _))).mono ?_
                      rintro e w2 ⟨rfl, hs⟩
                      have hs2 := since_box2 hs
                      have HS5 : Hid (W3.Since W3.heap.size w2) := sinceT HS4.out hs2 HS4.out.size
                      have HW5 : Hid (w.Since w.heap.size w2) := sinceT HW4.out hs2 HW4.out.size
                      have k0' := cellS hs2 k0
                      clear k0 k10 e0 e1 e2 e3 e4 e5 e6 e7 e8 hs hs2
                      generalize hsn : sndI l.n l.f l.h0 l.h1 = sn at *
                      by_cases g0 : sn < 0
                      · go_wp2
                        go_ret
                        exact ⟨rfl, HW5.out⟩
                      · by_cases g1 : c.G < sn
                        · go_wp2
                          go_ret
                          exact ⟨rfl, HW5.out⟩
                        · go_wp2
                          go_roundw
                          case rel =>
                            refine ⟨k + 1, by omega, by go_num, HS5.out, fun m hm => ?_⟩
                            by_cases e : m = k
                            · subst e; rw [hLk]; exact ⟨by omega, by omega, fun _ => by rw [hsn]; exact ⟨by omega, by omega⟩⟩
                            · exact HV.out m (by omega)
                          case measure => simp [intOf]; omega
                    · have f2' : (l.fr == 0) = false := by simp [f2]
                      go_wp2
                      go_roundw
                      case rel =>
                        refine ⟨k + 1, by omega, by go_num, sinceT HS4.out ((World.Since.refl _ _).alloc (Nat.le_refl _) _) HS4.out.size, fun m hm => ?_⟩
                        by_cases e : m = k
                        · subst e; rw [hLk]; exact ⟨by omega, by omega, fun h => absurd h f2⟩
                        · exact HV.out m (by omega)
                      case measure => simp [intOf]; omega
              · obtain rfl : k = c.ln := by omega
                go_wp2_with fail
                go_meet
                case rel => exact ⟨HS4.out, HV.out⟩
            -- A]]
          case rest =>
            obtain ⟨hs, hvd⟩ := hcut
            have HVD : Hid (∀ m, m < c.ln → Vd c.G (L m)) := hvd
            have HI : Hid (Inp wc c O no sv so s ft fk A C L) := H3.out.since hs
            have HB4 : Hid (wc.rowIs w.heap.size 27 13 (fun i => c.arr.getD i undef)) := rowS HB3.out hs
            have HW4 : Hid (w.Since w.heap.size wc) := sinceT HW3.out hs HW3.out.size
            clear hs hvd H1 H2 H3 HB1 HB2 HB3 HW1 HW2 HW3
            obtain ⟨k0, k1, k2, k3, k4, k5, k6, k7, k8, k9, k10, k11, k12⟩ := box13 HB4.out
            clear k0 k1 k2 k3 k5 k6 k7 k8 k9 k10 k11 k12
            try dsimp only at k4
            go_wp2_with fail
            refine (cstrs_any c.vA c.vn c.vc sv _ HBD.out.1 HI.out.V HI.out.V0).mono ?_
            rintro e w2 ⟨A1, n1, rfl, -, -, hs⟩
            have kk := cellS hs k4
            have HBt := rowS HB4.out hs
            have HWt : Hid (w.Since w.heap.size w2) := sinceT HW4.out hs HW4.out.size
            have hfz := HBt.frozen 4
            clear hs k4
            go_upto_region 18 with fail
            have hHB := box_set4 HBt A1 c.vn n1
            have HB5 := hid_of hHB
            clear hHB
            have HW5 : Hid (w.Since w.heap.size (w2.setCell ⟨w.heap.size, 4, none⟩ (.slice A1 c.vn n1))) := HWt.out.setCell (Nat.le_refl _) _
            clear HBt HWt hfz kk HB4 HW4 HI
            generalize w2.setCell ⟨w.heap.size, 4, none⟩ (.slice A1 c.vn n1) = W5 at *
            clear w2
            have HI : Hid (Inp W5 c O no sv so s ft fk A C L) := H.out.since HW5.out
            obtain ⟨k0, k1, k2, k3, k4, k5, k6, k7, k8, k9, k10, k11, k12⟩ := box13 HB5.out
            clear k0 k1 k2 k3 k4 k5 k7 k8 k9 k10 k11 k12
            try dsimp only at k6
            go_wp2_with fail
            refine (cstrs_any c.oA c.on c.oc so _ HBD.out.2.1 HI.out.Os HI.out.O0).mono ?_
            rintro e w2 ⟨A2, n2, rfl, -, -, hs⟩
            have kk := cellS hs k6
            have HBt := rowS HB5.out hs
            have HWt : Hid (w.Since w.heap.size w2) := sinceT HW5.out hs HW5.out.size
            have hfz := HBt.frozen 6
            clear hs k6
            go_upto_region 19 with fail
            have hHB := box_set6 HBt A2 c.on n2
            have HB6 := hid_of hHB
            clear hHB
            have HW6 : Hid (w.Since w.heap.size (w2.setCell ⟨w.heap.size, 6, none⟩ (.slice A2 c.on n2))) := HWt.out.setCell (Nat.le_refl _) _
            clear HBt HWt hfz kk HB5 HW5 HI
            generalize w2.setCell ⟨w.heap.size, 6, none⟩ (.slice A2 c.on n2) = W6 at *
            clear w2
            have HI : Hid (Inp W6 c O no sv so s ft fk A C L) := H.out.since HW6.out
            obtain ⟨k0, k1, k2, k3, k4, k5, k6, k7, k8, k9, k10, k11, k12⟩ := box13 HB6.out
            clear k0 k1 k2 k3 k4 k5 k6 k7 k8 k10 k11 k12
            try dsimp only at k9
            go_wp2_with fail
            refine (cints_any c.tA c.tn c.tc ft _ HBD.out.2.2.1 HI.out.T HI.out.T0).mono ?_
            rintro e w2 ⟨A3, n3, rfl, hs⟩
            have kk := cellS hs k9
            have HBt := rowS HB6.out hs
            have HWt : Hid (w.Since w.heap.size w2) := sinceT HW6.out hs HW6.out.size
            have hfz := HBt.frozen 9
            clear hs k9
            go_upto_region 20 with fail
            have hHB := box_set9 HBt A3 c.tn n3
            have HB7 := hid_of hHB
            clear hHB
            have HW7 : Hid (w.Since w.heap.size (w2.setCell ⟨w.heap.size, 9, none⟩ (.slice A3 c.tn n3))) := HWt.out.setCell (Nat.le_refl _) _
            clear HBt HWt hfz kk HB6 HW6 HI
            generalize w2.setCell ⟨w.heap.size, 9, none⟩ (.slice A3 c.tn n3) = W7 at *
            clear w2
            have HI : Hid (Inp W7 c O no sv so s ft fk A C L) := H.out.since HW7.out
            obtain ⟨k0, k1, k2, k3, k4, k5, k6, k7, k8, k9, k10, k11, k12⟩ := box13 HB7.out
            clear k0 k1 k2 k3 k4 k5 k6 k7 k8 k9 k10 k12
            try dsimp only at k11
            go_wp2_with fail
            refine (cpairs_any c.kA c.kn c.kc fk _ HBD.out.2.2.2.2.1 HI.out.Kk HI.out.K0).mono ?_
            rintro e w2 ⟨A4, n4, rfl, hs⟩
            have kk := cellS hs k11
            have HBt := rowS HB7.out hs
            have HWt : Hid (w.Since w.heap.size w2) := sinceT HW7.out hs HW7.out.size
            have hfz := HBt.frozen 11
            clear hs k11
            go_upto_region 21 with fail
            have hHB := box_set11 HBt A4 c.kn n4
            have HB8 := hid_of hHB
            clear hHB
            have HW8 : Hid (w.Since w.heap.size (w2.setCell ⟨w.heap.size, 11, none⟩ (.slice A4 c.kn n4))) := HWt.out.setCell (Nat.le_refl _) _
            clear HBt HWt hfz kk HB7 HW7 HI
            generalize w2.setCell ⟨w.heap.size, 11, none⟩ (.slice A4 c.kn n4) = W8 at *
            clear w2
            have HI : Hid (Inp W8 c O no sv so s ft fk A C L) := H.out.since HW8.out
            obtain ⟨k0, k1, k2, k3, k4, k5, k6, k7, k8, k9, k10, k11, k12⟩ := box13 HB8.out
            clear k0 k1 k2 k3 k4 k5 k6 k7 k8 k9 k11 k12
            try dsimp only at k10
            go_wp2_with fail
            refine (clies_any c.lA c.ln c.lc A C L _ HBD.out.2.2.2.1 HBD.out.2.2.2.2.2.2 HI.out.Li HI.out.Lp HI.out.L0).mono ?_
            rintro e w2 ⟨A5, n5, A', C', rfl, hlc, hs⟩
            have kk := cellS hs k10
            have HBt := rowS HB8.out hs
            have HWt : Hid (w.Since w.heap.size w2) := sinceT HW8.out hs HW8.out.size
            have hfz := HBt.frozen 10
            have hbw := HB8.out.lt
            clear hs k10
            go_upto_region 22 with fail
            have hHB := box_set10 HBt A5 c.ln n5
            have HB9 := hid_of hHB
            clear hHB
            have HW9 : Hid (w.Since w.heap.size (w2.setCell ⟨w.heap.size, 10, none⟩ (.slice A5 c.ln n5))) := HWt.out.setCell (Nat.le_refl _) _
            have HLC : Hid (LC W8.heap.size (w2.setCell ⟨w.heap.size, 10, none⟩ (.slice A5 c.ln n5)) A5 c.ln A' C' L) := hlc.setO hbw _
            clear hlc
            clear HBt HWt hfz kk HB8 HW8 HI
            generalize w2.setCell ⟨w.heap.size, 10, none⟩ (.slice A5 c.ln n5) = W9 at *
            clear w2
            have HI : Hid (Inp W9 c O no sv so s ft fk A C L) := H.out.since HW9.out
            go_wp2_with fail
            refine (cstrs_any O no co s _ HBD.out.2.2.2.2.2.1 HI.out.S HI.out.S0).mono ?_
            rintro e w2 ⟨O', co', rfl, hO, hS, hs⟩
            obtain ⟨c', hG', hln', hlA', hlc', HB⟩ : ∃ c' : Cn, c'.G = c.G ∧ c'.ln = c.ln ∧ c'.lA = A5 ∧ c'.lc = n5 ∧ Hid (w2.rowIs w.heap.size 27 13 (fun i => c'.arr.getD i undef)) := ⟨{ c with vA := A1, vc := n1, oA := A2, oc := n2, tA := A3, tc := n3, kA := A4, kc := n4, lA := A5, lc := n5 }, rfl, rfl, rfl, rfl, rowS HB9.out hs⟩
            have HW : Hid (w.Since w.heap.size w2) := sinceT HW9.out hs HW9.out.size
            have HS : Hid (StrsR w2 O' no s) := hS
            have HL : Hid (LC W8.heap.size w2 A5 c.ln A' C' L) := HLC.out.since hs
            have hbw2 : w.heap.size < w2.heap.size := HB.out.lt
            clear hO hS hs HLC HI HW9 HB9
            have hln := HBD.out.2.2.2.1
            have hmk := fun W => make44 c.ln hln W
            obtain ⟨k0, k1, k2, k3, k4, k5, k6, k7, k8, k9, k10, k11, k12⟩ := box13 HB.out
            rw [hln', hlA', hlc'] at k10
            clear k0 k1 k2 k3 k4 k5 k6 k7 k8 k9 k11 k12
            go_upto_block 2 with fail
            clear k10 hmk
            have HR0 : Hid (Lr w2 (w2.alloc (.cells (madeCells zero44 (c.ln * 9)) 44)) c.ln A' C' L 0) := lr_start w2 c.ln A' C' L
            go_cut [9, 10] from 108 to 140 (fun _ _ wx => Lr w2 wx c.ln A' C' L c.ln)
            case first =>
              rename_i J0 K0 hJK hMK
              -- [[B
              go_wp2_with fail
              go_loopw [9, 10] (fun i _ wr => ∃ k : Nat, k ≤ c.ln ∧ i = .int .i64 k ∧ Lr w2 wr c.ln A' C' L k) (fun i _ _ => c.ln - (intOf i).toNat)
              case atStart => exact ⟨0, Nat.zero_le _, rfl, HR0.out⟩
              case round =>
                obtain ⟨k, hk, rfl, hR⟩ := hrel
                have HR : Hid (Lr w2 wr c.ln A' C' L k) := hR
                obtain ⟨g, hg, -, hs⟩ := hR
                obtain ⟨k0, k1, k2, k3, k4, k5, k6, k7, k8, k9, k10, k11, k12⟩ := box13 (rowS HB.out hs)
                rw [hln', hlA', hlc'] at k10
                clear k0 k1 k2 k3 k4 k5 k6 k7 k8 k9 k11 k12
                by_cases hlt : k < c.ln
                · obtain ⟨b, rfl, hli⟩ := (HL.out.since hs).lies (by omega)
                  obtain ⟨e0, e1, e2, e3, e4, e5, e6, e7, e8⟩ := hli.nine0 hlt
                  have d0 := hg.cell (i := k * 9) (by omega)
                  have d1 := hg.cell (i := k * 9 + 1) (by omega)
                  have d2 := hg.cell (i := k * 9 + 2) (by omega)
                  have d3 := hg.cell (i := k * 9 + 3) (by omega)
                  have d4 := hg.cell (i := k * 9 + 4) (by omega)
                  have d5 := hg.cell (i := k * 9 + 5) (by omega)
                  have d6 := hg.cell (i := k * 9 + 6) (by omega)
                  have d7 := hg.cell (i := k * 9 + 7) (by omega)
                  have d8 := hg.cell (i := k * 9 + 8) (by omega)
                  have hfr : ∀ i, wr.frozen? ⟨w2.heap.size, i, none⟩ = false := fun i => hg.frozen i
                  have hB : w2.heap.size < wr.heap.size := hg.lt
                  have hbl : b < wr.heap.size := World.block_lt_of_cell? wr _ e0
                  have hbb : w.heap.size < wr.heap.size := by omega
                  clear hs hli hg
                  try (simp only at e0)
                  have hst := fun o => lr_step2 HR.out hlt o
                  generalize hLk : L k = l at *
                  generalize A' k = Ak at *
                  generalize C' k = Ck at *
                  have HST : Hid (∀ o : Obj, Lr w2 ((set9 wr w2.heap.size (k * 9) (lieCell (.slice Ak l.n Ck) l)).alloc o) c.ln A' C' L (k + 1)) := hst
                  clear hst
                  go_wp2
                  go_roundw
                  case rel => exact ⟨k + 1, by omega, by go_num, HST.out _⟩
                  case measure => simp [intOf]; omega
                · obtain rfl : k = c.ln := by omega
                  clear hs hg
                  go_wp2_with fail
                  go_meet
                  case rel => exact HR.out
              -- B]]
            case rest =>
              have HR : Hid (Lr w2 wc c.ln A' C' L c.ln) := hcut
              clear hcut HR0
              obtain ⟨G, hGn⟩ : ∃ G : Nat, c.G = G := ⟨c.G.toNat, by omega⟩
              have HS2 : Hid (w2.Since w2.heap.size wc) := by obtain ⟨g, hg, -, hs⟩ := HR.out; exact hs
              have hblt : w2.heap.size < wc.heap.size := by obtain ⟨g, hg, -, hs⟩ := HR.out; exact hg.lt
              have HAL : Hid (∀ o, wc.Since wc.heap.size (wc.alloc o)) := fun o => (World.Since.refl _ _).alloc (Nat.le_refl _) o
              have HVa : Hid (Valid L c.ln G) := ⟨fun i hi => by have := HVD.out i hi; unfold Vd at this; omega, fun i hi hf => by have := (HVD.out i hi).2.2 hf; omega⟩
              have HLn : Hid (∀ i, i < c.ln → (L i).n ≤ 1048576) := HBD.out.2.2.2.2.2.2
              have hno := HBD.out.2.2.2.2.2.1
              have HLi : Hid (0 < c.ln → ∃ b, A5 = some ⟨b, 0, none⟩ ∧ LiesIn wc b 0 c.ln (fun i => .slice (A' i) (L i).n (C' i)) L) := fun h0 => (HL.out.since HS2.out).lies h0
              have HPa : Hid (∀ i, i < c.ln → PathR wc (A' i) (L i)) := (HL.out.since HS2.out).path
              have HSt : Hid (StrsR wc O' no s) := HS.out.since HS2.out (Nat.le_refl _)
              have HWc : Hid (w.Since w.heap.size wc) := sinceT HW.out HS2.out HW.out.size
              obtain ⟨k0, k1, k2, k3, k4, k5, k6, k7, k8, k9, k10, k11, k12⟩ := box13 (rowS HB.out HS2.out)
              rw [hG', hGn] at k0
              rw [hln', hlA', hlc'] at k10
              clear HVD HB HS HL HW
              go_wp2_with fail
              refine (index_lies wc.heap.size w2.heap.size c.ln G A' C' L O' no co' s _ (by omega) hln hno HLn.out (new_cell wc _ _ _ _ rfl) (new_cell wc _ _ _ _ rfl) (HR.out.lies.since (HAL.out _) hblt) (fun i hi => (HPa.out i hi).since (HAL.out _) (Nat.le_refl _)) (HSt.out.since (HAL.out _) (Nat.le_refl _)) HVa.out).mono ?_
              rintro e w5 ⟨bt, bm, bh, bo, bL, T, V, rfl, hF⟩
              have hk := kn_of (cellS (HAL.out _) k0) (cellS (HAL.out _) k10) (fun h0 => by
                obtain ⟨b, e, hl⟩ := HLi.out h0
                exact ⟨b, e, hl.since (HAL.out _) (World.block_lt_of_cell? wc _ (hl.nine0 h0).1)⟩) (fun i hi => (HPa.out i hi).since (HAL.out _) (Nat.le_refl _)) (HSt.out.since (HAL.out _) (Nat.le_refl _)) hF
              have hw := fun o => (sinceT (sinceT (sinceT HWc.out (HAL.out _) HWc.out.size) hF.since (sinceT HWc.out (HAL.out _) HWc.out.size).size) ((World.Since.refl _ w5).alloc (Nat.le_refl _) o) (sinceT (sinceT HWc.out (HAL.out _) HWc.out.size) hF.since (sinceT HWc.out (HAL.out _) HWc.out.size).size).size)
              have HK0 := hid_of hk
              have HWd0 : Hid (∀ o, w.Since w.heap.size (w5.alloc o)) := hw
              clear hk hw hF k0 k1 k2 k3 k4 k5 k6 k7 k8 k9 k10 k11 k12 HR HS2 HAL HLi HPa HSt HWc hblt
              go_upto_region 31 with fail
              have HWd : Hid (w.Since w.heap.size (w5.alloc (.cells #[.slice (some ⟨bt, 0, none⟩) c.ln c.ln, .slice (some ⟨bm, 0, none⟩) (G + 1) (G + 1), .slice (some ⟨bh, 0, none⟩) (G + 1) (G + 1), .slice (some ⟨bo, 0, none⟩) (G + 1) (G + 1)] 54))) := HWd0.out _
              clear HWd0
              generalize w5.alloc (.cells #[.slice (some ⟨bt, 0, none⟩) c.ln c.ln, .slice (some ⟨bm, 0, none⟩) (G + 1) (G + 1), .slice (some ⟨bh, 0, none⟩) (G + 1) (G + 1), .slice (some ⟨bo, 0, none⟩) (G + 1) (G + 1)] 54) = wd at *
              generalize w5.heap.size = bx at *
              generalize c.ln = n at *
              obtain ⟨x0, x1, x2, x3⟩ := HK0.out.four
              go_wp2_with fail
              refine (get14 _ _ _ _ _ _ _ _ _ _ _ _ _).mono ?_
              rintro e w6 ⟨rfl, hs⟩
              have HK : Hid (Kn w6 w.heap.size n G A5 n5 A' C' L O' no s bx bt bm bh bo bL T V) := HK0.out.since hs
              have HW : Hid (w.Since w.heap.size w6) := sinceT HWd.out hs HWd.out.size
              clear x0 x1 x2 x3 HK0 HWd hs
              have l0 := HK.out.l
              have hne : ((n : Int) != (n : Int)) = false := by simp
              go_upto_block 4 with fail
              clear l0 hne
              go_cut [14, 15, 16] from 179 to 228 (fun _ _ _ wx => w6.Since w6.heap.size wx)
              case first => as_aux_lemma =>
                rename_i J1 K1 hJK1 hMK1
                -- [[C
                go_wp2_with fail
                go_loopw [14, 15, 16] (fun i _ _ wr => ∃ k : Nat, k ≤ n ∧ i = .int .i64 k ∧ w6.Since w6.heap.size wr) (fun i _ _ _ => n - (intOf i).toNat)
                case atStart => exact ⟨0, Nat.zero_le _, rfl, World.Since.refl _ _⟩
                case round =>
                  obtain ⟨k, hk, rfl, hs⟩ := hrel
                  have HKr : Hid (Kn wr w.heap.size n G A5 n5 A' C' L O' no s bx bt bm bh bo bL T V) := HK.out.since hs
                  have HSr : Hid (w6.Since w6.heap.size wr) := hs
                  have l0 := HKr.out.l
                  clear hs
                  by_cases hlt : k < n
                  · obtain ⟨b, hA5, hli⟩ := HKr.out.lies (by omega)
                    rw [hA5] at l0
                    obtain ⟨e0, e1, e2, e3, e4, e5, e6, e7, e8⟩ := hli.nine0 hlt
                    obtain ⟨t0, t1, t2, t3, t4⟩ := HKr.out.five hlt
                    have hbl : b < wr.heap.size := World.block_lt_of_cell? wr _ e0
                    have hbt : bt < wr.heap.size := World.block_lt_of_cell? wr _ t0
                    have hk2 : (k : Int) < (n : Int) := by omega
                    clear hli hA5
                    have HC : Hid (∀ W x, wr.Since wr.heap.size W → Calls Try.prog 15 #[.slice O' no co', .string x] W fun e w' => e = .returned (.int .i64 (fidx s x no)) ∧ w' = W) := fun W x hW => first_any O' no co' s x W hno (HKr.out.strs.since hW (Nat.le_refl _))
                    have HAA : Hid (∀ o o', wr.Since wr.heap.size ((wr.alloc o).alloc o')) := fun o o' => ((World.Since.refl _ _).alloc (Nat.le_refl _) _).alloc (by simp) _
                    generalize L k = l at *
                    generalize A' k = Ak at *
                    generalize C' k = Ck at *
                    have q0 : (fidx s l.od no != fidx s l.od no) = false := by simp
                    have q1 : (l.si != l.si) = false := by simp
                    have q2 : (l.st != l.st) = false := by simp
                    have q3 : ((no : Int) != (no : Int)) = false := by simp
                    have q4 : (IntKind.u64.wrap l.sd != IntKind.u64.wrap l.sd) = false := by simp
                    go_upto_region 39 with fail
                    go_quiet ((go_at_call 15; refine Calls.quiet_of_same (HC.out _ _ (sinceN _ (HAA.out _ _)))))
                    go_upto_region 41 with fail
                    have hz := two_new wr #[.slice Ak l.n Ck, .int .i64 l.dest, .int .i64 l.h0, .int .i64 l.h1, .int .i64 l.fr, .string l.od, .bool l.si, .int .i64 l.st, .int .i64 l.sd] #[.int .i64 (fidx s l.od no), .bool l.si, .int .i64 l.st, .int .i64 (no : Int), .int .u64 (IntKind.u64.wrap l.sd)] 32 59 nq
                    clear e0 e1 e2 e3 e4 e5 e6 e7 e8 t0 t1 t2 t3 t4 HC HAA HKr
                    generalize (((wr.alloc (.cells #[.slice Ak l.n Ck, .int .i64 l.dest, .int .i64 l.h0, .int .i64 l.h1, .int .i64 l.fr, .string l.od, .bool l.si, .int .i64 l.st, .int .i64 l.sd] 32)).alloc (.cells #[.int .i64 (fidx s l.od no), .bool l.si, .int .i64 l.st, .int .i64 (no : Int), .int .u64 (IntKind.u64.wrap l.sd)] 59)).drewN nq) = wz at *
                    obtain ⟨z1, z2, z3⟩ := hz
                    have HZ : Hid (w6.Since w6.heap.size wz) := sinceT HSr.out z3 HSr.out.size
                    have c7 := z1 7 _ rfl
                    have c8 := z1 8 _ rfl
                    have d0 := z2 0 _ rfl
                    have d1 := z2 1 _ rfl
                    have d2 := z2 2 _ rfl
                    have d3 := z2 3 _ rfl
                    have d4 := z2 4 _ rfl
                    clear z1 z2 z3
                    go_region_held3 (fun w' => w6.Since w6.heap.size w' ∧ w'.cell? ⟨wr.heap.size, 7, none⟩ = some (.int .i64 l.st) ∧ w'.cell? ⟨wr.heap.size, 8, none⟩ = some (.int .i64 l.sd) ∧ w'.cell? ⟨wr.heap.size + 1, 0, none⟩ = some (.int .i64 (fidx s l.od no)) ∧ w'.cell? ⟨wr.heap.size + 1, 1, none⟩ = some (.bool l.si) ∧ w'.cell? ⟨wr.heap.size + 1, 2, none⟩ = some (.int .i64 l.st) ∧ w'.cell? ⟨wr.heap.size + 1, 3, none⟩ = some (.int .i64 (no : Int)) ∧ w'.cell? ⟨wr.heap.size + 1, 4, none⟩ = some (.int .u64 (IntKind.u64.wrap l.sd)))
                      (first | exact keepT hs18 ‹_› | exact keepT hs17 ‹_› | exact keepT hs16 ‹_› | exact ⟨HZ.out.drew, c7, c8, d0, d1, d2, d3, d4⟩)
                      (first | (go_at_call 16; refine (get16 _ _ _ _ _ _).mono ?_; rintro e w16 ⟨rfl, hs16⟩) | (go_at_call 17; refine (get17 _ _ _ _ _ _).mono ?_; rintro e w17 ⟨rfl, hs17⟩) | (go_at_call 18; refine (get18 _ _ _ _ _ _).mono ?_; rintro e w18 ⟨rfl, hs18⟩))
                    rename_i hHeld
                    have HZ2 : Hid (w6.Since w6.heap.size w18) := hHeld.1
                    clear hHeld hs16 hs17 hs18 HZ c7 c8 d0 d1 d2 d3 d4
                    go_wp2
                    go_roundw
                    case rel => exact ⟨k + 1, by omega, by go_num, HZ2.out⟩
                    case measure => simp [intOf]; omega
                  · obtain rfl : k = n := by omega
                    go_wp2_with fail
                    go_meet
                    case rel => exact HSr.out
                -- C]]
              case rest =>
                have HK7 : Hid (Kn wc w.heap.size n G A5 n5 A' C' L O' no s bx bt bm bh bo bL T V) := HK.out.since hcut
                have HW7 : Hid (w.Since w.heap.size wc) := sinceT HW.out hcut HW.out.size
                clear hcut HK HW
                obtain ⟨x0, x1, x2, x3⟩ := HK7.out.four
                go_wp2_with fail
                refine (get19 _ _ _ _ _ _ _ _ _ _ _ _ _).mono ?_
                rintro e w7 ⟨rfl, hs⟩
                have HK : Hid (Kn w7 w.heap.size n G A5 n5 A' C' L O' no s bx bt bm bh bo bL T V) := HK7.out.since hs
                have HW : Hid (w.Since w.heap.size w7) := sinceT HW7.out hs HW7.out.size
                clear x0 x1 x2 x3 HK7 HW7 hs
                have g0 := HK.out.g
                have hne : ((G : Int) + 1 != (G : Int) + 1) = false := by simp
                have hmk := fun W => run_make_row' (P := Try.prog) 23 3 (.int .i64 0) 8 Try.underlying23 info3 rfl .i64 .i64 (G + 1) (by omega) (by omega) W
                push_cast at hmk
                go_upto_block 6 with fail
                clear g0 hne
                go_cut [19] from 241 to 249 (fun _ wx => wx.rowIs w7.heap.size 3 (G + 1) (lastV L 0) ∧ w7.Since w7.heap.size wx)
                case first => as_aux_lemma =>
                  rename_i J1 K1 hJK1 hMK1
                  -- [[D
                  go_wp2_with fail
                  go_loopw [19] (fun i wr => ∃ k : Nat, k ≤ G + 1 ∧ i = .int .i64 k ∧ Row w7 wr 3 (G + 1) (fun _ => .int .i64 (-1)) (.int .i64 0) k) (fun i _ => G + 1 - (intOf i).toNat)
                  case atStart => exact ⟨0, Nat.zero_le _, rfl, row_start w7 3 (G + 1) _ _⟩
                  case round =>
                    obtain ⟨k, hk, rfl, hR⟩ := hrel
                    have HR : Hid (Row w7 wr 3 (G + 1) (fun _ => .int .i64 (-1)) (.int .i64 0) k) := hR
                    by_cases hlt : k < G + 1
                    · have hdk := hR.1.cell hlt
                      have hfk := hR.1.frozen k
                      have hk2 : (k : Int) < (G : Int) + 1 := by omega
                      have hk3 : (k : Int) < ((G + 1 : Nat) : Int) := by omega
                      clear hR
                      go_wp2
                      go_roundw
                      case rel => exact ⟨k + 1, by omega, by go_num, row_step HR.out⟩
                      case measure => simp [intOf]; omega
                    · obtain rfl : k = G + 1 := by omega
                      clear hR
                      go_wp2_with fail
                      go_meet
                      case rel => exact ⟨(row_done HR.out).1, (row_done HR.out).2.1⟩
                  -- D]]
                case rest =>
                  obtain ⟨hrw, hs0⟩ := hcut
                  have HR5 : Hid (wc.rowIs w7.heap.size 3 (G + 1) (lastV L 0) ∧ w7.Since w7.heap.size wc) := ⟨hrw, hs0⟩
                  clear hrw hs0 hmk
                  go_upto_block 8 with fail
                  go_cut [20] from 250 to 272 (fun _ wx => wx.rowIs w7.heap.size 3 (G + 1) (lastV L n) ∧ w7.Since w7.heap.size wx)
                  case first => as_aux_lemma =>
                    rename_i J1 K1 hJK1 hMK1
                    -- [[E
                    go_wp2_with fail
                    go_loopw [20] (fun i wr => ∃ k : Nat, k ≤ n ∧ i = .int .i64 k ∧ wr.rowIs w7.heap.size 3 (G + 1) (lastV L k) ∧ w7.Since w7.heap.size wr) (fun i _ => n - (intOf i).toNat)
                    case atStart => exact ⟨0, Nat.zero_le _, rfl, HR5.out⟩
                    case round =>
                      obtain ⟨k, hk, rfl, hrw, hs⟩ := hrel
                      have HKr : Hid (Kn wr w.heap.size n G A5 n5 A' C' L O' no s bx bt bm bh bo bL T V) := HK.out.since hs
                      have HSr : Hid (w7.Since w7.heap.size wr) := hs
                      have HRr : Hid (wr.rowIs w7.heap.size 3 (G + 1) (lastV L k)) := hrw
                      have l0 := HKr.out.l
                      clear hs hrw
                      by_cases hlt : k < n
                      · obtain ⟨b, hA5, hli⟩ := HKr.out.lies (by omega)
                        rw [hA5] at l0
                        obtain ⟨e0, e1, e2, e3, e4, e5, e6, e7, e8⟩ := hli.nine0 hlt
                        have hk2 : (k : Int) < (n : Int) := by omega
                        have hva := HVa.out.fr k hlt
                        clear hli hA5 e0 e1 e2 e3 e5 e6 e7 e8
                        by_cases hf : (L k).fr = 0
                        · have hf' : ((L k).fr != 0) = false := by simp [hf]
                          rw [hf] at e4
                          have HF : Hid ((L k).fr = 0) := hf
                          clear hf hf' hva
                          go_wp2
                          go_roundw
                          case rel => exact ⟨k + 1, by omega, by go_num, by rw [last_same HF.out]; exact HRr.out, HSr.out⟩
                          case measure => simp [intOf]; omega
                        · obtain ⟨kf, hkf⟩ : ∃ kf : Nat, (L k).fr = kf := ⟨(L k).fr.toNat, by omega⟩
                          have hf' : ((kf : Int) != 0) = true := by rw [hkf] at hf; simpa using hf
                          have hkf0 : kf ≠ 0 := by omega
                          have hkf1 : kf < G + 1 := by omega
                          have hkf2 : (kf : Int) < (G : Int) + 1 := by omega
                          have hkf3 : (kf : Int) < ((G + 1 : Nat) : Int) := by omega
                          have hdk := HRr.out.cell hkf1
                          have hfk := HRr.out.frozen kf
                          rw [hkf] at e4
                          have HF : Hid ((L k).fr = kf) := hkf
                          clear hf hva hkf
                          go_wp2
                          go_roundw
                          case rel => exact ⟨k + 1, by omega, by go_num, by rw [← last_set HF.out hkf0]; exact HRr.out.set kf _, HSr.out.setCell (Nat.le_refl _) _⟩
                          case measure => simp [intOf]; omega
                      · obtain rfl : k = n := by omega
                        go_wp2_with fail
                        go_meet
                        case rel => exact ⟨HRr.out, HSr.out⟩
                    -- E]]
                  case rest =>
                    obtain ⟨hrw, hs0⟩ := hcut
                    have HK9 : Hid (Kn wc w.heap.size n G A5 n5 A' C' L O' no s bx bt bm bh bo bL T V) := HK.out.since hs0
                    have HW9 : Hid (w.Since w.heap.size wc) := sinceT HW.out hs0 HW.out.size
                    have HR9 : Hid (wc.rowIs w7.heap.size 3 (G + 1) (lastV L n)) := hrw
                    clear hrw hs0 HR5 HK HW
                    go_upto_block 10 with fail
                    generalize wc = w9 at *
                    go_cut [21] from 273 to 299 (fun _ wx => w9.Since w9.heap.size wx)
                    case first => as_aux_lemma =>
                      rename_i J1 K1 hJK1 hMK1
                      -- [[F
                      go_wp2_with fail
                      go_loopw [21] (fun i wr => ∃ k : Nat, k ≤ G + 1 ∧ i = .int .i64 k ∧ w9.Since w9.heap.size wr) (fun i _ => G + 1 - (intOf i).toNat)
                      case atStart => exact ⟨0, Nat.zero_le _, rfl, World.Since.refl _ _⟩
                      case round =>
                        obtain ⟨k, hk, rfl, hs⟩ := hrel
                        have HKr : Hid (Kn wr w.heap.size n G A5 n5 A' C' L O' no s bx bt bm bh bo bL T V) := HK9.out.since hs
                        have HSr : Hid (w9.Since w9.heap.size wr) := hs
                        have HRr : Hid (wr.rowIs w7.heap.size 3 (G + 1) (lastV L n)) := rowS HR9.out hs
                        clear hs
                        by_cases hlt : k < G + 1
                        · have hk2 : (k : Int) < (G : Int) + 1 := by omega
                          have hk3 : (k : Int) < ((G + 1 : Nat) : Int) := by omega
                          have hk0 : (0 : Int) ≤ (k : Int) := by omega
                          have r0 := HRr.out.cell hlt
                          have o0 := HKr.out.oth.cell (i := k) hlt
                          cases hl : lastI (fun i => (L i).fr) (k : Int) n with
                          | none =>
                            obtain ⟨y1, y2⟩ := last_none (bt := bt) hl
                            rw [y1] at r0
                            rw [y2] at o0
                            clear hl y1 y2
                            go_wp2
                            go_roundw
                            case rel => exact ⟨k + 1, by omega, by go_num, HSr.out⟩
                            case measure => simp [intOf]; omega
                          | some i =>
                            obtain ⟨y1, y2, hin⟩ := last_some (bt := bt) hl
                            rw [y1] at r0
                            rw [y2] at o0
                            have hi0 : (0 : Int) ≤ (i : Int) := by omega
                            have hi1 : ¬ (i : Int) < 0 := by omega
                            have hi2 : (i : Int) < (n : Int) := by omega
                            clear hl y1 y2
                            go_upto_region 62 with fail
                            go_quiet (fail)
                            go_wp2
                            go_roundw
                            case rel => exact ⟨k + 1, by omega, by go_num, sinceN _ HSr.out⟩
                            case measure => simp [intOf]; omega
                        · obtain rfl : k = G + 1 := by omega
                          go_wp2_with fail
                          go_meet
                          case rel => exact HSr.out
                      -- F]]
                    case rest =>
                      have HK10 : Hid (Kn wc w.heap.size n G A5 n5 A' C' L O' no s bx bt bm bh bo bL T V) := HK9.out.since hcut
                      have HW10 : Hid (w.Since w.heap.size wc) := sinceT HW9.out hcut HW9.out.size
                      clear hcut HK9 HW9 HR9
                      obtain ⟨x0, x1, x2, x3⟩ := HK10.out.four
                      go_wp2_with fail
                      refine (get20 _ _ _ _ _ _ _ _ _ _ _ _ _).mono ?_
                      rintro e w11 ⟨rfl, hs⟩
                      have HK11 : Hid (Kn w11 w.heap.size n G A5 n5 A' C' L O' no s bx bt bm bh bo bL T V) := HK10.out.since hs
                      have HW11 : Hid (w.Since w.heap.size w11) := sinceT HW10.out hs HW10.out.size
                      clear x0 x1 x2 x3 HK10 HW10 hs
                      obtain ⟨x0, x1, x2, x3⟩ := HK11.out.four
                      go_wp2_with fail
                      refine (get21 _ _ _ _ _ _ _ _ _ _ _ _ _).mono ?_
                      rintro e wA ⟨rfl, hs⟩
                      have HK : Hid (Kn wA w.heap.size n G A5 n5 A' C' L O' no s bx bt bm bh bo bL T V) := HK11.out.since hs
                      have HW : Hid (w.Since w.heap.size wA) := sinceT HW11.out hs HW11.out.size
                      clear x0 x1 x2 x3 HK11 HW11 hs
                      have g0 := HK.out.g
                      have hbA : w.heap.size < wA.heap.size := World.block_lt_of_cell? wA _ g0
                      have hne : ((G : Int) + 1 != (G : Int) + 1) = false := by simp
                      have hmk := fun W => run_make_row' (P := Try.prog) 23 3 (.int .i64 0) 8 Try.underlying23 info3 rfl .i64 .i64 (G + 1) (by omega) (by omega) W
                      push_cast at hmk
                      go_upto_block 12 with fail
                      clear g0 hne hmk
                      have HP0 : Hid (Pos wA ((wA.alloc (.cells (madeCells #[.int .i64 0] (G + 1)) 3)).alloc (.cells (madeCells #[.int .i64 0] (G + 1)) 3)) G (keyI L G) 0) := pos_start wA G _
                      go_cut [26, 27, 28, 29] from 326 to 429 (fun _ _ _ _ wx => Pos wA wx G (keyI L G) n)
                      case first => as_aux_lemma =>
                        rename_i J1 K1 hJK1 hMK1
                        -- [[G
                        go_wp2_with fail
                        go_loopw [26, 27, 28, 29] (fun i _ _ _ wr => ∃ k : Nat, k ≤ n ∧ i = .int .i64 k ∧ Pos wA wr G (keyI L G) k) (fun i _ _ _ _ => n - (intOf i).toNat)
                        case atStart => exact ⟨0, Nat.zero_le _, rfl, HP0.out⟩
                        case round =>
                          obtain ⟨k, hk, rfl, hP⟩ := hrel
                          have HP : Hid (Pos wA wr G (keyI L G) k) := hP
                          have HKr : Hid (Kn wr w.heap.size n G A5 n5 A' C' L O' no s bx bt bm bh bo bL T V) := HK.out.since hP.since
                          have l0 := HKr.out.l
                          have hAw : wA.heap.size + 1 < wr.heap.size := hP.H.lt
                          clear hP
                          by_cases hlt : k < n
                          · obtain ⟨b, hA5, hli⟩ := HKr.out.lies (by omega)
                            rw [hA5] at l0
                            obtain ⟨e0, e1, e2, e3, e4, e5, e6, e7, e8⟩ := hli.nine0 hlt
                            have hbl : b < wr.heap.size := World.block_lt_of_cell? wr _ e0
                            have hk2 : (k : Int) < (n : Int) := by omega
                            have hk0 : (0 : Int) ≤ (k : Int) := by omega
                            clear hli hA5
                            by_cases hf : (L k).fr = 0
                            · have HF : Hid ((L k).fr = 0) := hf
                              have hf' : ((L k).fr != 0) = false := by simp [hf]
                              obtain ⟨hsN, hsG⟩ := snd_nat HVa.out hlt hf
                              have hlk := HLn.out k hlt
                              have HPk : Hid (PathR wr (A' k) (L k)) := HKr.out.path k hlt
                              have HPp : Hid (∀ W, wA.Since wA.heap.size W → PathR W (A' k) (L k)) := fun W hW => (HK.out.since hW).path k hlt
                              have HE := hid_of (HKr.out.entry HVa.out hlt hf)
                              have HKh : Hid (hopB (L k).h0 (L k).h1 = true → keyI L G k = G + 1 + sndN (L k)) := fun hh => key_hop hf hh
                              have HKm : Hid (hopB (L k).h0 (L k).h1 = false → keyI L G k = sndN (L k)) := fun hh => key_msg hf hh
                              generalize hsn : sndN (L k) = sn at *
                              generalize L k = l at *
                              generalize A' k = Ak at *
                              generalize C' k = Ck at *
                              clear hf
                              go_wp2_with fail
                              refine (zsend_any Ak Ck l _ (by assumption) (HPk.out.since ((World.Since.refl _ _).alloc (Nat.le_refl _) _) (Nat.le_refl _))).mono ?_
                              rintro e w3 ⟨rfl, hs⟩
                              rw [hsN]
                              have f0 : w3.cell? ⟨wr.heap.size, 0, none⟩ = some (.slice Ak l.n Ck) := cellS hs (new_cell wr _ _ _ _ rfl)
                              have f1 : w3.cell? ⟨wr.heap.size, 1, none⟩ = some (.int .i64 l.dest) := cellS hs (new_cell wr _ _ _ _ rfl)
                              have f2 : w3.cell? ⟨wr.heap.size, 2, none⟩ = some (.int .i64 l.h0) := cellS hs (new_cell wr _ _ _ _ rfl)
                              have f3 : w3.cell? ⟨wr.heap.size, 3, none⟩ = some (.int .i64 l.h1) := cellS hs (new_cell wr _ _ _ _ rfl)
                              have HS3 : Hid (wr.Since wr.heap.size w3) := since_box2 hs
                              have hb3 : wr.heap.size < w3.heap.size := World.block_lt_of_cell? w3 _ f0
                              clear hs e0 e1 e2 e3 e4 e5 e6 e7 e8 l0 hbl hsN hf'
                              go_upto_if 346 with fail
                              obtain ⟨z, hz⟩ := new_row w3 #[.slice none 0 0, .int .i64 0, .int .i64 0, .int .i64 0, .pointer none] 68
                              replace f0 := cellS ((World.Since.refl _ _).alloc (Nat.le_refl _) (.cells #[.slice none 0 0, .int .i64 0, .int .i64 0, .int .i64 0, .pointer none] 68)) f0
                              replace f1 := cellS ((World.Since.refl _ _).alloc (Nat.le_refl _) (.cells #[.slice none 0 0, .int .i64 0, .int .i64 0, .int .i64 0, .pointer none] 68)) f1
                              replace f2 := cellS ((World.Since.refl _ _).alloc (Nat.le_refl _) (.cells #[.slice none 0 0, .int .i64 0, .int .i64 0, .int .i64 0, .pointer none] 68)) f2
                              replace f3 := cellS ((World.Since.refl _ _).alloc (Nat.le_refl _) (.cells #[.slice none 0 0, .int .i64 0, .int .i64 0, .int .i64 0, .pointer none] 68)) f3
                              have HS4 : Hid (wr.Since wr.heap.size (w3.alloc (.cells #[.slice none 0 0, .int .i64 0, .int .i64 0, .int .i64 0, .pointer none] 68))) := sinceT HS3.out ((World.Since.refl _ _).alloc (Nat.le_refl _) _) HS3.out.size
                              generalize w3.alloc (.cells #[.slice none 0 0, .int .i64 0, .int .i64 0, .int .i64 0, .pointer none] 68) = w4 at *
                              generalize w3.heap.size = be at *
                              have HK4 : Hid (Kn w4 w.heap.size n G A5 n5 A' C' L O' no s bx bt bm bh bo bL T V) := HKr.out.since HS4.out
                              have HP4 : Hid (Pos wA w4 G (keyI L G) k) := HP.out.step HS4.out
                              have hbe : be < w4.heap.size := hz.lt
                              have HZ : Hid (w4.rowIs be 68 5 z) := hz
                              have HZd : Hid (∀ m, (w4.drewN m).rowIs be 68 5 z) := fun m => rowS hz (sinceN m (World.Since.refl _ _))
                              have HFd : Hid ((∀ m, (w4.drewN m).cell? ⟨wr.heap.size, 0, none⟩ = some (.slice Ak l.n Ck)) ∧ (∀ m, (w4.drewN m).cell? ⟨wr.heap.size, 1, none⟩ = some (.int .i64 l.dest)) ∧ (∀ m, (w4.drewN m).cell? ⟨wr.heap.size, 2, none⟩ = some (.int .i64 l.h0)) ∧ (∀ m, (w4.drewN m).cell? ⟨wr.heap.size, 3, none⟩ = some (.int .i64 l.h1))) := ⟨fun m => cellS (sinceN m (World.Since.refl _ _)) f0, fun m => cellS (sinceN m (World.Since.refl _ _)) f1, fun m => cellS (sinceN m (World.Since.refl _ _)) f2, fun m => cellS (sinceN m (World.Since.refl _ _)) f3⟩
                              clear HS3 hz
                              have hbh : bh < wr.heap.size := HKr.out.hop.lt
                              have hbm : bm < wr.heap.size := HKr.out.msg.lt
                              have hbL : bL < wr.heap.size := by obtain ⟨s0, cn, hc1, hc2, hV, i0, i1, i2, i3, i4⟩ := HE.out; exact World.block_lt_of_cell? wr _ i0
                              have hbL' : bL < be := by omega
                              have hA1 : wA.heap.size < be := by omega
                              have hA2 : wA.heap.size + 1 < be := by omega
                              have z0 := HZ.out.cell (i := 0) (by omega)
                              have z1 := HZ.out.cell (i := 1) (by omega)
                              have z2 := HZ.out.cell (i := 2) (by omega)
                              have z3 := HZ.out.cell (i := 3) (by omega)
                              have z4 := HZ.out.cell (i := 4) (by omega)
                              have zf : ∀ i, w4.frozen? ⟨be, i, none⟩ = false := fun i => HZ.out.frozen i
                              have hs1 : (sn : Int) < (G : Int) + 1 := by omega
                              have hs2 : (0 : Int) ≤ (sn : Int) := by omega
                              have hs3 : (sn : Int) < ((G + 1 : Nat) : Int) := by omega
                              have hs4 : sn < G + 1 := by omega
                              go_cut [] from 326 to 429 (fun wx => Pos wA wx G (keyI L G) (k + 1) ∧ wx.cell? ⟨be, 0, none⟩ = some (.slice Ak l.n Ck) ∧ wx.cell? ⟨be, 1, none⟩ = some (.int .i64 l.dest) ∧ wx.cell? ⟨be, 2, none⟩ = some (.int .i64 l.h0) ∧ wx.cell? ⟨be, 3, none⟩ = some (.int .i64 l.h1) ∧ wx.cell? ⟨be, 4, none⟩ = some (.pointer (some ⟨bt, k * 5, none⟩)) ∧ wx.cell? ⟨wr.heap.size, 0, none⟩ = some (.slice Ak l.n Ck) ∧ wx.cell? ⟨wr.heap.size, 1, none⟩ = some (.int .i64 l.dest) ∧ wx.cell? ⟨wr.heap.size, 2, none⟩ = some (.int .i64 l.h0) ∧ wx.cell? ⟨wr.heap.size, 3, none⟩ = some (.int .i64 l.h1))
                              case first => as_aux_lemma =>
                                rename_i J2 K2 hJK2 hMK2
                                cases hh : hopB l.h0 l.h1
                                · obtain ⟨y0, y1⟩ := hop_none hh
                                  have hb : ((!(l.h0 == 0)) || (!(l.h1 == 0))) = false := by simp [y0, y1]
                                  clear y0 y1
                                  simp only [hb]
                                  have hq := HKm.out hh
                                  obtain ⟨s0, cn, hc1, hc2, hV, i0, i1, i2, i3, i4⟩ := HE.out
                                  rw [hq] at hc1 hV i0 i1 i2 i3 i4
                                  have v0 : w4.cell? ⟨bm, sn, none⟩ = some (.slice (some ⟨bL, s0, none⟩) cn cn) := (HK4.out.msg.cell (by omega)).trans (congrArg some hV)
                                  have p0 := HP4.out.M.cell (i := sn) (by omega)
                                  have pf := HP4.out.M.frozen sn
                                  have HPn : Hid (∀ W, wr.Since wr.heap.size W → Pos wA (W.setCell ⟨wA.heap.size, sn, none⟩ (.int .i64 (((cnt (keyI L G) (sn) k : Nat) : Int) + 1))) G (keyI L G) (k + 1)) := fun W hW => (HP.out.step hW).msg hq hsG
                                  replace i0 := cellS HS4.out i0
                                  replace i1 := cellS HS4.out i1
                                  replace i2 := cellS HS4.out i2
                                  replace i3 := cellS HS4.out i3
                                  replace i4 := cellS HS4.out i4
                                  generalize cnt (keyI L G) (sn) k = c0 at *
                                  have hc3 : (c0 : Int) < (cn : Int) := by omega
                                  have hc4 : (0 : Int) ≤ (c0 : Int) := by omega
                                  have hc5 : ¬ (cn : Int) ≤ (c0 : Int) := by omega
                                  have hbb : bm < be := by omega
                                  clear hV hq hh hb
                                  go_upto_region 82 with fail
                                  go_quiet (fail)
                                  go_upto_region 84 with fail
                                  go_region_held3 (fun w' => w'.cell? ⟨bm, sn, none⟩ = some (.slice (some ⟨bL, s0, none⟩) cn cn) ∧ w'.cell? ⟨wA.heap.size, sn, none⟩ = some (.int .i64 (c0 : Int)) ∧ w'.cell? ⟨bL, s0 + c0 * 5, none⟩ = some (.slice Ak l.n Ck) ∧ w'.cell? ⟨bL, s0 + c0 * 5 + 1, none⟩ = some (.int .i64 l.dest) ∧ w'.cell? ⟨bL, s0 + c0 * 5 + 2, none⟩ = some (.int .i64 l.h0) ∧ w'.cell? ⟨bL, s0 + c0 * 5 + 3, none⟩ = some (.int .i64 l.h1) ∧ w'.cell? ⟨bL, s0 + c0 * 5 + 4, none⟩ = some (.pointer (some ⟨bt, k * 5, none⟩))) (first | go_keep | exact keepW (by omega) (by omega) (by omega) ‹_› | exact keepW (by omega) (by omega) (by omega) (by go_keep)) (fail)
                                  go_wp2
                                  go_meet
                                  case rel => exact ⟨HPn.out _ (since5 (sinceN _ HS4.out) (by omega)), rel7 (HZd.out _) (HFd.out.1 _) (HFd.out.2.1 _) (HFd.out.2.2.1 _) (HFd.out.2.2.2 _) (by omega) (by omega) (by omega) rfl⟩
                                · have hb : ((!(l.h0 == 0)) || (!(l.h1 == 0))) = true := by rw [← Bool.not_and]; exact hh
                                  simp only [hb]
                                  have hq := HKh.out hh
                                  obtain ⟨s0, cn, hc1, hc2, hV, i0, i1, i2, i3, i4⟩ := HE.out
                                  rw [hq] at hc1 hV i0 i1 i2 i3 i4
                                  have v0 : w4.cell? ⟨bh, sn, none⟩ = some (.slice (some ⟨bL, s0, none⟩) cn cn) := (HK4.out.hop.cell (by omega)).trans (congrArg some hV)
                                  have p0 := HP4.out.H.cell (i := sn) (by omega)
                                  have pf := HP4.out.H.frozen sn
                                  have HPn : Hid (∀ W, wr.Since wr.heap.size W → Pos wA (W.setCell ⟨wA.heap.size + 1, sn, none⟩ (.int .i64 (((cnt (keyI L G) (G + 1 + sn) k : Nat) : Int) + 1))) G (keyI L G) (k + 1)) := fun W hW => (HP.out.step hW).hop hq
                                  replace i0 := cellS HS4.out i0
                                  replace i1 := cellS HS4.out i1
                                  replace i2 := cellS HS4.out i2
                                  replace i3 := cellS HS4.out i3
                                  replace i4 := cellS HS4.out i4
                                  generalize cnt (keyI L G) (G + 1 + sn) k = c0 at *
                                  have hc3 : (c0 : Int) < (cn : Int) := by omega
                                  have hc4 : (0 : Int) ≤ (c0 : Int) := by omega
                                  have hc5 : ¬ (cn : Int) ≤ (c0 : Int) := by omega
                                  have hbb : bh < be := by omega
                                  clear hV hq hh hb
                                  go_upto_region 78 with fail
                                  go_quiet (fail)
                                  go_upto_region 80 with fail
                                  go_region_held3 (fun w' => w'.cell? ⟨bh, sn, none⟩ = some (.slice (some ⟨bL, s0, none⟩) cn cn) ∧ w'.cell? ⟨wA.heap.size + 1, sn, none⟩ = some (.int .i64 (c0 : Int)) ∧ w'.cell? ⟨bL, s0 + c0 * 5, none⟩ = some (.slice Ak l.n Ck) ∧ w'.cell? ⟨bL, s0 + c0 * 5 + 1, none⟩ = some (.int .i64 l.dest) ∧ w'.cell? ⟨bL, s0 + c0 * 5 + 2, none⟩ = some (.int .i64 l.h0) ∧ w'.cell? ⟨bL, s0 + c0 * 5 + 3, none⟩ = some (.int .i64 l.h1) ∧ w'.cell? ⟨bL, s0 + c0 * 5 + 4, none⟩ = some (.pointer (some ⟨bt, k * 5, none⟩))) (first | go_keep | exact keepW (by omega) (by omega) (by omega) ‹_› | exact keepW (by omega) (by omega) (by omega) (by go_keep)) (fail)
                                  go_wp2
                                  go_meet
                                  case rel => exact ⟨HPn.out _ (since5 (sinceN _ HS4.out) (by omega)), rel7 (HZd.out _) (HFd.out.1 _) (HFd.out.2.1 _) (HFd.out.2.2.1 _) (HFd.out.2.2.2 _) (by omega) (by omega) (by omega) rfl⟩
                              case rest => as_aux_lemma =>
                                obtain ⟨hP, z0', z1', z2', z3', z4', f0', f1', f2', f3'⟩ := hcut
                                have HPx : Hid (Pos wA wc G (keyI L G) (k + 1)) := hP
                                have HC : Hid (∀ W, wc.Since wc.heap.size W → Calls Try.prog 22 #[.slice Ak l.n Ck, .slice Ak l.n Ck] W fun e w' => e = .returned (.bool true) ∧ W.Since W.heap.size w') := fun W hW => same_any Ak Ck l W hlk (HPp.out W (sinceT HPx.out.since hW HPx.out.since.size))
                                clear hP f0 f1 f2 f3 z0 z1 z2 z3 z4 zf HK4 HP4 HZ HZd HFd HS4 HE HKh HKm HPk HKr HP
                                have q0 : (l.dest != l.dest) = false := by simp
                                have q1 : (l.h0 == l.h0) = true := by simp
                                have q2 : (l.h1 == l.h1) = true := by simp
                                go_upto_region 86 with fail
                                go_region_held3 (fun w' => wc.Since wc.heap.size w' ∧ w'.cell? ⟨be, 0, none⟩ = some (.slice Ak l.n Ck) ∧ w'.cell? ⟨be, 1, none⟩ = some (.int .i64 l.dest) ∧ w'.cell? ⟨be, 2, none⟩ = some (.int .i64 l.h0) ∧ w'.cell? ⟨be, 3, none⟩ = some (.int .i64 l.h1) ∧ w'.cell? ⟨be, 4, none⟩ = some (.pointer (some ⟨bt, k * 5, none⟩)) ∧ w'.cell? ⟨wr.heap.size, 0, none⟩ = some (.slice Ak l.n Ck) ∧ w'.cell? ⟨wr.heap.size, 1, none⟩ = some (.int .i64 l.dest) ∧ w'.cell? ⟨wr.heap.size, 2, none⟩ = some (.int .i64 l.h0) ∧ w'.cell? ⟨wr.heap.size, 3, none⟩ = some (.int .i64 l.h1))
                                  (first | exact keepU hs22 ‹_› | exact ⟨(World.Since.refl _ _).drew, z0', z1', z2', z3', z4', f0', f1', f2', f3'⟩)
                                  (((go_at_call 22; refine (HC.out _ ((World.Since.refl _ _).drew)).mono ?_; rintro e w22 ⟨rfl, hs22⟩)))
                                rename_i hHeld
                                have HPy : Hid (Pos wA w22 G (keyI L G) (k + 1)) := HPx.out.step hHeld.1
                                clear hHeld hs22 HPx HC z0' z1' z2' z3' z4' f0' f1' f2' f3'
                                go_wp2
                                go_roundw
                                case rel =>
                                  first | exact ⟨k + 1, by omega, by go_num, HPy.out⟩ | ((repeat apply Exists.intro); exact ⟨⟨k + 1, by omega, by go_num, HPy.out⟩, rfl⟩)
                                case measure => simp [intOf]; omega
                            · have hf' : ((L k).fr != 0) = true := by simpa using hf
                              have HS4 : Hid (∀ o, Pos wA (wr.alloc o) G (keyI L G) (k + 1)) := fun o => (HP.out.step ((World.Since.refl _ _).alloc (Nat.le_refl _) o)).skip (keyI_oth hf)
                              generalize L k = l at *
                              generalize A' k = Ak at *
                              generalize C' k = Ck at *
                              clear hf
                              go_wp2
                              go_roundw
                              case rel => exact ⟨k + 1, by omega, by go_num, HS4.out _⟩
                              case measure => simp [intOf]; omega
                          · obtain rfl : k = n := by omega
                            go_wp2_with fail
                            go_meet
                            case rel => exact HP.out
                        -- G]]
                      case rest =>
                        have HPn : Hid (Pos wA wc G (keyI L G) n) := hcut
                        clear hcut HP0
                        go_upto_block 14 with fail
                        generalize wc = wB at *
                        go_cut [30] from 430 to 457 (fun _ wx => wB.Since wB.heap.size wx)
                        case first => as_aux_lemma =>
                          rename_i J1 K1 hJK1 hMK1
                          -- [[H
                          go_wp2_with fail
                          go_loopw [30] (fun i wr => ∃ k : Nat, k ≤ G + 1 ∧ i = .int .i64 k ∧ wB.Since wB.heap.size wr) (fun i _ => G + 1 - (intOf i).toNat)
                          case atStart => exact ⟨0, Nat.zero_le _, rfl, World.Since.refl _ _⟩
                          case round =>
                            obtain ⟨k, hk, rfl, hs⟩ := hrel
                            have HPr : Hid (Pos wA wr G (keyI L G) n) := HPn.out.step hs
                            have HKr : Hid (Kn wr w.heap.size n G A5 n5 A' C' L O' no s bx bt bm bh bo bL T V) := HK.out.since HPr.out.since
                            have HSr : Hid (wB.Since wB.heap.size wr) := hs
                            have g0 := HKr.out.g
                            clear hs
                            by_cases hlt : k < G + 1
                            · have hk1 : (k : Int) ≤ (G : Int) := by omega
                              have hk2 : (k : Int) < (G : Int) + 1 := by omega
                              have hk3 : (k : Int) < ((G + 1 : Nat) : Int) := by omega
                              have hk0 : (0 : Int) ≤ (k : Int) := by omega
                              obtain ⟨a1, c1, hV1⟩ := HKr.out.len (q := k) (by omega)
                              obtain ⟨a2, c2, hV2⟩ := HKr.out.len (q := G + 1 + k) (by omega)
                              have v1 : wr.cell? ⟨bm, k, none⟩ = some (.slice a1 (cnt (keyI L G) k n) c1) := (HKr.out.msg.cell hlt).trans (congrArg some hV1)
                              have v2 : wr.cell? ⟨bh, k, none⟩ = some (.slice a2 (cnt (keyI L G) (G + 1 + k) n) c2) := (HKr.out.hop.cell hlt).trans (congrArg some hV2)
                              have p1 := HPr.out.M.cell (i := k) hlt
                              have p2 := HPr.out.H.cell (i := k) hlt
                              clear hV1 hV2
                              generalize cnt (keyI L G) k n = m1 at *
                              generalize cnt (keyI L G) (G + 1 + k) n = m2 at *
                              have q1 : ((m1 : Int) != (m1 : Int)) = false := by simp
                              have q2 : ((m2 : Int) != (m2 : Int)) = false := by simp
                              go_upto_region 91 with fail
                              go_quiet (fail)
                              go_wp2
                              go_roundw
                              case rel => exact ⟨k + 1, by omega, by go_num, sinceN _ HSr.out⟩
                              case measure => simp [intOf]; omega
                            · obtain rfl : k = G + 1 := by omega
                              have hk1 : ¬ ((G : Int) + 1 ≤ (G : Int)) := by omega
                              have hk4 : (G : Int) < (G : Int) + 1 := by omega
                              go_wp2_with fail
                              go_meet
                              case rel => exact HSr.out
                          -- H]]
                        case rest =>
                          have HWz : Hid (w.Since w.heap.size wc) := sinceT HW.out (sinceT HPn.out.since hcut HPn.out.since.size) HW.out.size
                          clear hcut
                          go_wp2
                          go_ret
                          exact ⟨rfl, HWz.out⟩
end Go.Proofs.Qxb6601175a.Idx
