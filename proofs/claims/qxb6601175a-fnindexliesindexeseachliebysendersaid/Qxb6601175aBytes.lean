/-
  zzBytes, zzAddLen, zzCouncilBytes: walks.
-/
import Derived.Test.Qxb6601175aFirst
set_option linter.unusedVariables false
namespace Go.Proofs.Qxb6601175a.Idx
open Go.ChangeShapes Go.WideShapes Go.ChangeAt Go.RowKit

/-- zzAddLen -/
theorem addlen_any (t n u : Int) (w : World) (ht : 0 ≤ t ∧ t ≤ 1048577) (hn : 0 ≤ n ∧ n ≤ 9223372036854775807) (hu : u = 1 ∨ u = 8 ∨ u = 16 ∨ u = 64) :
    Calls Try.prog 40 #[.int .i64 t, .int .i64 n, .int .i64 u] w fun e w' => (∃ r : Int, 0 ≤ r ∧ r ≤ 1048577 ∧ e = .returned (.int .i64 r)) ∧ w' = w := by
  obtain ⟨t0, t1⟩ := ht
  obtain ⟨n0, n1⟩ := hn
  rcases hu with rfl | rfl | rfl | rfl
  all_goals
    go_enter Try.func40, Try.ntmps40
    go_wp2
    all_goals
      go_ret
      exact ⟨⟨_, by omega, by omega, rfl⟩, rfl⟩

/-- the struct of the law's first argument, as it is handed in -/
def councilV (G M Cm : Int) (od : ByteArray) (vA : Option Addr) (vn vc : Nat) (K : Int) (oA : Option Addr) (on oc : Nat) (df : ByteArray) (R : Int) (tA : Option Addr) (tn tc : Nat) (lA : Option Addr) (ln lc : Nat) (kA : Option Addr) (kn kc : Nat) (P : Int) : Array Value :=
  #[.int .i64 G, .int .i64 M, .int .i64 Cm, .string od, .slice vA vn vc, .int .i64 K, .slice oA on oc, .string df, .int .i64 R, .slice tA tn tc, .slice lA ln lc, .slice kA kn kc, .int .i64 P]

set_option maxRecDepth 100000 in
set_option maxHeartbeats 4000000 in
/-- zzBytes -/
theorem bytes_any (G M Cm : Int) (od : ByteArray) (vA : Option Addr) (vn vc : Nat) (K : Int) (oA : Option Addr) (on oc : Nat) (df : ByteArray) (R : Int) (tA : Option Addr) (tn tc : Nat) (lA : Option Addr) (ln lc : Nat) (kA : Option Addr) (kn kc : Nat) (P : Int) (O : Option Addr) (no co : Nat)
    (w : World) (sv so s : Nat → ByteArray) (A : Nat → Option Addr) (C : Nat → Nat) (L : Nat → Lie)
    (hod : od.size ≤ 9223372036854775807) (hdf : df.size ≤ 9223372036854775807) (hvn : vn ≤ 9223372036854775807) (hon : on ≤ 9223372036854775807) (htn : tn ≤ 9223372036854775807) (hln : ln ≤ 9223372036854775807) (hkn : kn ≤ 9223372036854775807) (hno : no ≤ 9223372036854775807)
    (hV : StrsR w vA vn sv) (hVs : ∀ i, i < vn → (sv i).size ≤ 9223372036854775807) (hO : StrsR w oA on so) (hOs : ∀ i, i < on → (so i).size ≤ 9223372036854775807) (hS : StrsR w O no s) (hSs : ∀ i, i < no → (s i).size ≤ 9223372036854775807)
    (hL : 0 < ln → ∃ b off, lA = some ⟨b, off, none⟩ ∧ LiesIn w b off ln (fun i => .slice (A i) (L i).n (C i)) L) (hLs : ∀ i, i < ln → (L i).n ≤ 9223372036854775807 ∧ (L i).od.size ≤ 9223372036854775807) :
    Calls Try.prog 6 #[.agg #[.int .i64 G, .int .i64 M, .int .i64 Cm, .string od, .slice vA vn vc, .int .i64 K, .slice oA on oc, .string df, .int .i64 R, .slice tA tn tc, .slice lA ln lc, .slice kA kn kc, .int .i64 P], .slice O no co] w fun e w' =>
      (e = .returned (.bool false) ∨ (e = .returned (.bool true) ∧ (vn ≤ 1048576 ∧ on ≤ 1048576 ∧ tn ≤ 1048576 ∧ ln ≤ 1048576 ∧ kn ≤ 1048576 ∧ no ≤ 1048576 ∧ ∀ i, i < ln → (L i).n ≤ 1048576))) ∧ w.Since w.heap.size w' := by
  have HV : Hid (StrsR w vA vn sv) := hV
  have HVs : Hid (∀ i, i < vn → (sv i).size ≤ 9223372036854775807) := hVs
  have HO : Hid (StrsR w oA on so) := hO
  have HOs : Hid (∀ i, i < on → (so i).size ≤ 9223372036854775807) := hOs
  have HS : Hid (StrsR w O no s) := hS
  have HSs : Hid (∀ i, i < no → (s i).size ≤ 9223372036854775807) := hSs
  have HL : Hid (0 < ln → ∃ b off, lA = some ⟨b, off, none⟩ ∧ LiesIn w b off ln (fun i => .slice (A i) (L i).n (C i)) L) := hL
  have HLs : Hid (∀ i, i < ln → (L i).n ≤ 9223372036854775807 ∧ (L i).od.size ≤ 9223372036854775807) := hLs
  clear hV hVs hO hOs hS hSs hL hLs
  go_enter Try.func6, Try.ntmps6
  go_wp2
  all_goals try (go_ret; exact ⟨.inl rfl, (World.Since.refl _ _).alloc (Nat.le_refl _) _⟩)
  go_loop [5, 6] (fun a i => ∃ (k : Nat) (z : Int), k ≤ vn ∧ i = .int .i64 k ∧ a = .int .i64 z ∧ 0 ≤ z ∧ z ≤ 1048576) (fun _ i => vn - (intOf i).toNat)
  case atStart => exact ⟨0, _, Nat.zero_le _, rfl, rfl, by omega, by omega⟩
  case round =>
    obtain ⟨k, z, hk, rfl, rfl, hz0, hz1⟩ := hrel
    by_cases hlt : k < vn
    · obtain ⟨b, off, rfl, hc⟩ := HV.out k hlt
      have hb : b < w.heap.size := World.block_lt_of_cell? w _ hc
      have hsz := HVs.out k hlt
      go_wp2
      all_goals try (go_ret; exact ⟨.inl rfl, (World.Since.refl _ _).alloc (Nat.le_refl _) _⟩)
      go_round
      case rel => exact ⟨k + 1, _, by omega, by go_num, rfl, by omega, by omega⟩
      case measure => simp [intOf]; omega
    · go_wp2
      all_goals try (go_ret; exact ⟨.inl rfl, (World.Since.refl _ _).alloc (Nat.le_refl _) _⟩)
      go_loop [5, 7] (fun a i => ∃ (k : Nat) (z : Int), k ≤ on ∧ i = .int .i64 k ∧ a = .int .i64 z ∧ 0 ≤ z ∧ z ≤ 1048576) (fun _ i => on - (intOf i).toNat)
      case atStart => exact ⟨0, _, Nat.zero_le _, rfl, rfl, by omega, by omega⟩
      case round =>
        obtain ⟨k, z, hk, rfl, rfl, hz0, hz1⟩ := hrel
        by_cases hlt : k < on
        · obtain ⟨b, off, rfl, hc⟩ := HO.out k hlt
          have hb : b < w.heap.size := World.block_lt_of_cell? w _ hc
          have hsz := HOs.out k hlt
          go_wp2
          all_goals try (go_ret; exact ⟨.inl rfl, (World.Since.refl _ _).alloc (Nat.le_refl _) _⟩)
          go_round
          case rel => exact ⟨k + 1, _, by omega, by go_num, rfl, by omega, by omega⟩
          case measure => simp [intOf]; omega
        · go_wp2
          all_goals try (go_ret; exact ⟨.inl rfl, (World.Since.refl _ _).alloc (Nat.le_refl _) _⟩)
          go_loop [5, 8] (fun a i => ∃ (k : Nat) (z : Int), k ≤ ln ∧ i = .int .i64 k ∧ a = .int .i64 z ∧ 0 ≤ z ∧ z ≤ 1048576 ∧ Hid (∀ m, m < k → (L m).n ≤ 1048576)) (fun _ i => ln - (intOf i).toNat)
          case atStart => exact ⟨0, _, Nat.zero_le _, rfl, rfl, by omega, by omega, fun m hm => absurd hm (by omega)⟩
          case round =>
            obtain ⟨k, z, hk, rfl, rfl, hz0, hz1, HM⟩ := hrel
            by_cases hlt : k < ln
            · obtain ⟨b, off, rfl, hli⟩ := HL.out (by omega)
              obtain ⟨e0, e1, e2, e3, e4, e5, e6, e7, e8⟩ := hli.nine hlt
              have hb : b < w.heap.size := World.block_lt_of_cell? w _ e0
              have hsz := HLs.out k hlt
              have hsz1 := hsz.1
              have hsz2 := hsz.2
              clear hsz hli e1 e2 e3 e4 e6 e7 e8
              go_wp2
              all_goals try (go_ret; exact ⟨.inl rfl, (World.Since.refl _ _).alloc (Nat.le_refl _) _⟩)
              go_round
              case rel =>
                refine ⟨k + 1, _, by omega, by go_num, rfl, by omega, by omega, fun m hm => ?_⟩
                by_cases e : m = k
                · subst e; omega
                · exact HM.out m (by omega)
              case measure => simp [intOf]; omega
            · go_wp2
              all_goals try (go_ret; exact ⟨.inl rfl, (World.Since.refl _ _).alloc (Nat.le_refl _) _⟩)
              go_loop [5, 9] (fun a i => ∃ (k : Nat) (z : Int), k ≤ no ∧ i = .int .i64 k ∧ a = .int .i64 z ∧ 0 ≤ z ∧ z ≤ 1048576) (fun _ i => no - (intOf i).toNat)
              case atStart => exact ⟨0, _, Nat.zero_le _, rfl, rfl, by omega, by omega⟩
              case round =>
                obtain ⟨k, z, hk, rfl, rfl, hz0, hz1⟩ := hrel
                by_cases hlt : k < no
                · obtain ⟨b, off, rfl, hc⟩ := HS.out k hlt
                  have hb : b < w.heap.size := World.block_lt_of_cell? w _ hc
                  have hsz := HSs.out k hlt
                  go_wp2
                  all_goals try (go_ret; exact ⟨.inl rfl, (World.Since.refl _ _).alloc (Nat.le_refl _) _⟩)
                  go_round
                  case rel => exact ⟨k + 1, _, by omega, by go_num, rfl, by omega, by omega⟩
                  case measure => simp [intOf]; omega
                · go_wp2
                  all_goals try (go_ret; exact ⟨.inl rfl, (World.Since.refl _ _).alloc (Nat.le_refl _) _⟩)
                  go_ret
                  exact ⟨.inr ⟨rfl, by omega, by omega, by omega, by omega, by omega, by omega, fun i hi => HM.out i (by omega)⟩, (World.Since.refl _ _).alloc (Nat.le_refl _) _⟩
end Go.Proofs.Qxb6601175a.Idx
