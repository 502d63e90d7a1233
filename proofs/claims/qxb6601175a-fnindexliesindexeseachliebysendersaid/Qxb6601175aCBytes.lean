/-
  zzCouncilBytes: the walk: it returns some number.
-/
import Derived.Test.Qxb6601175aBytes
import Derived.Deep.CutBlock
set_option linter.unusedVariables false
namespace Go.Proofs.Qxb6601175a.Idx
open Go.ChangeShapes Go.WideShapes Go.ChangeAt Go.RowKit

set_option maxRecDepth 100000 in
set_option maxHeartbeats 4000000 in
theorem cbytes_any (G M Cm : Int) (od : ByteArray) (vA : Option Addr) (vn vc : Nat) (K : Int) (oA : Option Addr) (on oc : Nat) (df : ByteArray) (R : Int) (tA : Option Addr) (tn tc : Nat) (lA : Option Addr) (ln lc : Nat) (kA : Option Addr) (kn kc : Nat) (P : Int) (O : Option Addr) (no co : Nat)
    (w : World) (sv so s : Nat → ByteArray) (A : Nat → Option Addr) (C : Nat → Nat) (L : Nat → Lie)
    (hod : od.size ≤ 9223372036854775807) (hdf : df.size ≤ 9223372036854775807) (hvn : vn ≤ 9223372036854775807) (hon : on ≤ 9223372036854775807) (htn : tn ≤ 9223372036854775807) (hln : ln ≤ 9223372036854775807) (hkn : kn ≤ 9223372036854775807) (hno : no ≤ 9223372036854775807)
    (hV : StrsR w vA vn sv) (hVs : ∀ i, i < vn → (sv i).size ≤ 9223372036854775807) (hO : StrsR w oA on so) (hOs : ∀ i, i < on → (so i).size ≤ 9223372036854775807) (hS : StrsR w O no s) (hSs : ∀ i, i < no → (s i).size ≤ 9223372036854775807)
    (hL : 0 < ln → ∃ b off, lA = some ⟨b, off, none⟩ ∧ LiesIn w b off ln (fun i => .slice (A i) (L i).n (C i)) L) (hLs : ∀ i, i < ln → (L i).n ≤ 9223372036854775807 ∧ (L i).od.size ≤ 9223372036854775807) :
    Calls Try.prog 7 #[.agg #[.int .i64 G, .int .i64 M, .int .i64 Cm, .string od, .slice vA vn vc, .int .i64 K, .slice oA on oc, .string df, .int .i64 R, .slice tA tn tc, .slice lA ln lc, .slice kA kn kc, .int .i64 P], .slice O no co] w fun e w' =>
      (∃ r : Int, e = .returned (.int .i64 r)) ∧ w.Since w.heap.size w' := by
  have HV : Hid (StrsR w vA vn sv) := hV
  have HVs : Hid (∀ i, i < vn → (sv i).size ≤ 9223372036854775807) := hVs
  have HO : Hid (StrsR w oA on so) := hO
  have HOs : Hid (∀ i, i < on → (so i).size ≤ 9223372036854775807) := hOs
  have HS : Hid (StrsR w O no s) := hS
  have HSs : Hid (∀ i, i < no → (s i).size ≤ 9223372036854775807) := hSs
  have HL : Hid (0 < ln → ∃ b off, lA = some ⟨b, off, none⟩ ∧ LiesIn w b off ln (fun i => .slice (A i) (L i).n (C i)) L) := hL
  have HLs : Hid (∀ i, i < ln → (L i).n ≤ 9223372036854775807 ∧ (L i).od.size ≤ 9223372036854775807) := hLs
  clear hV hVs hO hOs hS hSs hL hLs
  go_enter Try.func7, Try.ntmps7
  go_upto_block 0 with (go_at_call 40; refine (addlen_any _ _ _ _ ⟨by omega, by omega⟩ ⟨by omega, by omega⟩ (by decide)).mono ?_; rintro e w' ⟨⟨r, hr0, hr1, rfl⟩, rfl⟩)
  go_cut [5] from 10 (fun a wx => ∃ z : Int, a = .int .i64 z ∧ 0 ≤ z ∧ z ≤ 1048577 ∧ wx = (w.alloc (.cells #[.int .i64 G, .int .i64 M, .int .i64 Cm, .string od, .slice vA vn vc, .int .i64 K, .slice oA on oc, .string df, .int .i64 R, .slice tA tn tc, .slice lA ln lc, .slice kA kn kc, .int .i64 P] 27)))
  case first =>
    go_wp2
    go_loop [5, 6] (fun a i => ∃ (k : Nat) (z : Int), k ≤ vn ∧ i = .int .i64 k ∧ a = .int .i64 z ∧ 0 ≤ z ∧ z ≤ 1048577) (fun _ i => vn - (intOf i).toNat)
    case atStart => exact ⟨0, _, Nat.zero_le _, rfl, rfl, by omega, by omega⟩
    case round =>
      obtain ⟨k, z, hk, rfl, rfl, hz0, hz1⟩ := hrel
      by_cases hlt1 : k < vn
      · by_cases hlt2 : z ≤ 1048576
        · obtain ⟨b, off, rfl, hc⟩ := HV.out k hlt1
          have hb : b < w.heap.size := World.block_lt_of_cell? w _ hc
          have hsz := HVs.out k hlt1
          go_wp2_with (go_at_call 40; refine (addlen_any _ _ _ _ ⟨by omega, by omega⟩ ⟨by omega, by omega⟩ (by decide)).mono ?_; rintro e w' ⟨⟨r, hr0, hr1, rfl⟩, rfl⟩)
          go_round
          case rel => exact ⟨k + 1, _, by omega, by go_num, rfl, by omega, by omega⟩
          case measure => simp [intOf]; omega
        · go_wp2
          go_meet
          case rel => exact ⟨_, rfl, by omega, by omega, rfl⟩
      · go_wp2
        go_meet
        case rel => exact ⟨_, rfl, by omega, by omega, rfl⟩
  case rest =>
    obtain ⟨z, rfl, hz0, hz1, rfl⟩ := hcut
    go_upto_block 2 with (go_at_call 40; refine (addlen_any _ _ _ _ ⟨by omega, by omega⟩ ⟨by omega, by omega⟩ (by decide)).mono ?_; rintro e w' ⟨⟨r, hr0, hr1, rfl⟩, rfl⟩)
    go_cut [5] from 10 (fun a wx => ∃ z : Int, a = .int .i64 z ∧ 0 ≤ z ∧ z ≤ 1048577 ∧ wx = (w.alloc (.cells #[.int .i64 G, .int .i64 M, .int .i64 Cm, .string od, .slice vA vn vc, .int .i64 K, .slice oA on oc, .string df, .int .i64 R, .slice tA tn tc, .slice lA ln lc, .slice kA kn kc, .int .i64 P] 27)))
    case first =>
      go_wp2
      go_loop [5, 7] (fun a i => ∃ (k : Nat) (z : Int), k ≤ on ∧ i = .int .i64 k ∧ a = .int .i64 z ∧ 0 ≤ z ∧ z ≤ 1048577) (fun _ i => on - (intOf i).toNat)
      case atStart => exact ⟨0, _, Nat.zero_le _, rfl, rfl, by omega, by omega⟩
      case round =>
        obtain ⟨k, z, hk, rfl, rfl, hz0, hz1⟩ := hrel
        by_cases hlt1 : k < on
        · by_cases hlt2 : z ≤ 1048576
          · obtain ⟨b, off, rfl, hc⟩ := HO.out k hlt1
            have hb : b < w.heap.size := World.block_lt_of_cell? w _ hc
            have hsz := HOs.out k hlt1
            go_wp2_with (go_at_call 40; refine (addlen_any _ _ _ _ ⟨by omega, by omega⟩ ⟨by omega, by omega⟩ (by decide)).mono ?_; rintro e w' ⟨⟨r, hr0, hr1, rfl⟩, rfl⟩)
            go_round
            case rel => exact ⟨k + 1, _, by omega, by go_num, rfl, by omega, by omega⟩
            case measure => simp [intOf]; omega
          · go_wp2
            go_meet
            case rel => exact ⟨_, rfl, by omega, by omega, rfl⟩
        · go_wp2
          go_meet
          case rel => exact ⟨_, rfl, by omega, by omega, rfl⟩
    case rest =>
      obtain ⟨z, rfl, hz0, hz1, rfl⟩ := hcut
      go_upto_block 4 with (go_at_call 40; refine (addlen_any _ _ _ _ ⟨by omega, by omega⟩ ⟨by omega, by omega⟩ (by decide)).mono ?_; rintro e w' ⟨⟨r, hr0, hr1, rfl⟩, rfl⟩)
      go_cut [5] from 10 (fun a wx => ∃ z : Int, a = .int .i64 z ∧ 0 ≤ z ∧ z ≤ 1048577 ∧ wx = (w.alloc (.cells #[.int .i64 G, .int .i64 M, .int .i64 Cm, .string od, .slice vA vn vc, .int .i64 K, .slice oA on oc, .string df, .int .i64 R, .slice tA tn tc, .slice lA ln lc, .slice kA kn kc, .int .i64 P] 27)))
      case first =>
        go_wp2
        go_loop [5, 8] (fun a i => ∃ (k : Nat) (z : Int), k ≤ no ∧ i = .int .i64 k ∧ a = .int .i64 z ∧ 0 ≤ z ∧ z ≤ 1048577) (fun _ i => no - (intOf i).toNat)
        case atStart => exact ⟨0, _, Nat.zero_le _, rfl, rfl, by omega, by omega⟩
        case round =>
          obtain ⟨k, z, hk, rfl, rfl, hz0, hz1⟩ := hrel
          by_cases hlt1 : k < no
          · by_cases hlt2 : z ≤ 1048576
            · obtain ⟨b, off, rfl, hc⟩ := HS.out k hlt1
              have hb : b < w.heap.size := World.block_lt_of_cell? w _ hc
              have hsz := HSs.out k hlt1
              go_wp2_with (go_at_call 40; refine (addlen_any _ _ _ _ ⟨by omega, by omega⟩ ⟨by omega, by omega⟩ (by decide)).mono ?_; rintro e w' ⟨⟨r, hr0, hr1, rfl⟩, rfl⟩)
              go_round
              case rel => exact ⟨k + 1, _, by omega, by go_num, rfl, by omega, by omega⟩
              case measure => simp [intOf]; omega
            · go_wp2
              go_meet
              case rel => exact ⟨_, rfl, by omega, by omega, rfl⟩
          · go_wp2
            go_meet
            case rel => exact ⟨_, rfl, by omega, by omega, rfl⟩
      case rest =>
        obtain ⟨z, rfl, hz0, hz1, rfl⟩ := hcut
        go_upto_block 6 with (go_at_call 40; refine (addlen_any _ _ _ _ ⟨by omega, by omega⟩ ⟨by omega, by omega⟩ (by decide)).mono ?_; rintro e w' ⟨⟨r, hr0, hr1, rfl⟩, rfl⟩)
        go_cut [5] from 10 (fun a wx => ∃ z : Int, a = .int .i64 z ∧ 0 ≤ z ∧ z ≤ 1048577 ∧ wx = (w.alloc (.cells #[.int .i64 G, .int .i64 M, .int .i64 Cm, .string od, .slice vA vn vc, .int .i64 K, .slice oA on oc, .string df, .int .i64 R, .slice tA tn tc, .slice lA ln lc, .slice kA kn kc, .int .i64 P] 27)))
        case first =>
          go_wp2
          go_loop [5, 9] (fun a i => ∃ (k : Nat) (z : Int), k ≤ ln ∧ i = .int .i64 k ∧ a = .int .i64 z ∧ 0 ≤ z ∧ z ≤ 1048577) (fun _ i => ln - (intOf i).toNat)
          case atStart => exact ⟨0, _, Nat.zero_le _, rfl, rfl, by omega, by omega⟩
          case round =>
            obtain ⟨k, z, hk, rfl, rfl, hz0, hz1⟩ := hrel
            by_cases hlt1 : k < ln
            · by_cases hlt2 : z ≤ 1048576
              · obtain ⟨b, off, rfl, hli⟩ := HL.out (by omega)
                obtain ⟨e0, e1, e2, e3, e4, e5, e6, e7, e8⟩ := hli.nine hlt1
                have hb : b < w.heap.size := World.block_lt_of_cell? w _ e0
                have hsz := HLs.out k hlt1
                have hsz1 := hsz.1
                have hsz2 := hsz.2
                clear hsz hli e1 e2 e3 e4 e6 e7 e8
                go_wp2_with (go_at_call 40; refine (addlen_any _ _ _ _ ⟨by omega, by omega⟩ ⟨by omega, by omega⟩ (by decide)).mono ?_; rintro e w' ⟨⟨r, hr0, hr1, rfl⟩, rfl⟩)
                go_round
                case rel => exact ⟨k + 1, _, by omega, by go_num, rfl, by omega, by omega⟩
                case measure => simp [intOf]; omega
              · go_wp2
                go_meet
                case rel => exact ⟨_, rfl, by omega, by omega, rfl⟩
            · go_wp2
              go_meet
              case rel => exact ⟨_, rfl, by omega, by omega, rfl⟩
        case rest =>
          obtain ⟨z, rfl, hz0, hz1, rfl⟩ := hcut
          go_wp2
          go_ret
          exact ⟨⟨_, rfl⟩, (World.Since.refl _ _).alloc (Nat.le_refl _) _⟩
end Go.Proofs.Qxb6601175a.Idx
