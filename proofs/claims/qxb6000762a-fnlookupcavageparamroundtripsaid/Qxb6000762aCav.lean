import Derived.Test.Qxb6000762aRows
import Derived.WalkKit
import Derived.ProofKit
import Derived.OpenShut
import Derived.Test.Qxb6000762aCavPlain
namespace Go.Proofs.Qxb6000762a.Msub
open Go.ChangeShapes Go.WideShapes Go.ChangeAt Go.RowKit

theorem grown_trans {a b c : World} (h : Grown a b) (k : Grown b c) : Grown a c :=
  ⟨World.keptBut_trans h.1 (World.keptBut_mono (fun _ f => f) k.1), fun x => (k.2.1 x).trans (h.2.1 x), Nat.le_trans h.2.2 k.2.2⟩

theorem ret_pair {a b : Int} {p q : Bool} (h : a = b ∧ p = q) : Ending.returned (.tuple #[.int .u64 a, .bool p]) = .returned (.tuple #[.int .u64 b, .bool q]) := by rw [h.1, h.2]

/-- what the relation says of the array: its nine cells, not frozen, and nothing old has turned -/
def Arr (w wr : World) (s : ByteArray) (k : Nat) : Prop :=
  (∀ j : Nat, j < 9 → wr.cell? ⟨w.heap.size, j, none⟩ = some (.int .u8 (lw s k j))) ∧ (∀ j : Nat, j < 9 → wr.frozen? ⟨w.heap.size, j, none⟩ = false) ∧ Grown w wr

theorem arr_start (w : World) (s : ByteArray) : Arr w (w.alloc (.cells #[.int .u8 0, .int .u8 0, .int .u8 0, .int .u8 0, .int .u8 0, .int .u8 0, .int .u8 0, .int .u8 0, .int .u8 0] 39)) s 0 := by
  refine ⟨fun j hj => ?_, fun j hj => ?_, (Grown.refl w).alloc _ _⟩
  · rw [World.cell?_alloc_new, lw_zero]
    have hj' : j = 0 ∨ j = 1 ∨ j = 2 ∨ j = 3 ∨ j = 4 ∨ j = 5 ∨ j = 6 ∨ j = 7 ∨ j = 8 := by omega
    rcases hj' with rfl | rfl | rfl | rfl | rfl | rfl | rfl | rfl | rfl <;> rfl
  · rw [frozen?_alloc_cells]
    simp [World.frozen?]

theorem arr_step {w wr : World} {s : ByteArray} {k : Nat} (h : Arr w wr s k) (hk : k < 9) : Arr w (wr.setCell ⟨w.heap.size, k, none⟩ (.int .u8 (bits .or .u8 (bt s k) 32))) s (k + 1) := by
  obtain ⟨h1, h2, h3⟩ := h
  refine ⟨fun j hj => ?_, fun j hj => ?_, h3.setCell (Nat.le_refl _) _⟩
  · by_cases e : j = k
    · subst e
      rw [World.cell?_setCell_same _ _ _ (h1 j hj), lw_same]
    · rw [World.cell?_setCell_other _ _ _ _ (by intro h; simp only [Addr.mk.injEq] at h; omega), h1 j hj, lw_other _ _ _ e]
  · rw [World.frozen?_setCell]; exact h2 j hj

theorem arr_conv {w wr : World} {s : ByteArray} (h : Arr w wr s s.size) (hs : s.size ≤ 9) :
    ∀ dst, Try.prog.underlying dst = some .string → (convert 30 dst (.slice (some ⟨w.heap.size, 0, none⟩) s.size 9)).run Try.prog wr = .ok (.string (Low s)) wr := by
  refine run_convert_bytes_arg (P := Try.prog) wr 30 5 Try.underlying30 Try.underlying5 w.heap.size 0 s.size 9 ((List.range s.size).map (lw s s.size)) (by simp) fun i hi => ?_
  rw [Nat.zero_add, h.1 i (by omega)]
  rw [List.getD_eq_getElem?_getD]
  simp only [List.getElem?_map, List.getElem?_range hi, Option.map_some, Option.getD_some]

theorem at_name {s : ByteArray} (k : Nat) (hk : k < 7) (h : ((Low s).toList == kl k) = true) : (k : Int) = lkI (Low s).toList ∧ true = lkB (Low s).toList :=
  lk_at k hk (by simpa using h)
theorem at_none {s : ByteArray} (h0 : ((Low s).toList == kl 0) = false) (h1 : ((Low s).toList == kl 1) = false) (h2 : ((Low s).toList == kl 2) = false) (h3 : ((Low s).toList == kl 3) = false)
    (h4 : ((Low s).toList == kl 4) = false) (h5 : ((Low s).toList == kl 5) = false) (h6 : ((Low s).toList == kl 6) = false) : 0 = lkI (Low s).toList ∧ false = lkB (Low s).toList := by
  refine lk_no fun k hk => ?_
  rcases below7 k hk with rfl | rfl | rfl | rfl | rfl | rfl | rfl
  · exact beq_eq_false_iff_ne.1 h0
  · exact beq_eq_false_iff_ne.1 h1
  · exact beq_eq_false_iff_ne.1 h2
  · exact beq_eq_false_iff_ne.1 h3
  · exact beq_eq_false_iff_ne.1 h4
  · exact beq_eq_false_iff_ne.1 h5
  · exact beq_eq_false_iff_ne.1 h6

set_option maxHeartbeats 1000000 in
theorem lk_short (s : ByteArray) (hs : s.size ≤ 9) (w : World) :
    Calls Try.prog 26 #[.string s] w fun e w' => e = .returned (.tuple #[.int .u64 (lkI (Low s).toList), .bool (lkB (Low s).toList)]) ∧ Grown w w' := by
  go_enter Try.func26, Try.ntmps26
  go_wp2
  go_loopw [5] (fun i wr => ∃ k : Nat, k ≤ s.size ∧ i = .int .i64 k ∧ Arr w wr s k) (fun i _ => s.size - (intOf i).toNat)
  case atStart => exact ⟨0, Nat.zero_le _, rfl, arr_start w s⟩
  case round =>
    obtain ⟨k, hk, rfl, hA⟩ := hrel
    by_cases hlt : k < s.size
    · have ek := bt_get s k hlt
      have hb := bt_bd s k
      have hck := hA.1 k (by omega)
      have hfk := hA.2.1 k (by omega)
      have HA : Hid (Arr w wr s k) := hA
      clear hA
      go_wp2
      go_roundw
      case rel => exact ⟨k + 1, by omega, by go_num, arr_step HA.out (by omega)⟩
      case measure => simp [intOf]; omega
    · obtain rfl : k = s.size := by omega
      have hconv := arr_conv hA hs
      have HG : Hid (Grown w wr) := hA.2.2
      clear hA
      go_wp2
      all_goals
        go_ret2
      · exact ⟨ret_pair (at_name 0 (by omega) ‹_›), HG.out⟩
      · exact ⟨ret_pair (at_name 1 (by omega) ‹_›), HG.out⟩
      · exact ⟨ret_pair (at_name 2 (by omega) ‹_›), HG.out⟩
      · exact ⟨ret_pair (at_name 3 (by omega) ‹_›), HG.out⟩
      · exact ⟨ret_pair (at_name 4 (by omega) ‹_›), HG.out⟩
      · exact ⟨ret_pair (at_name 5 (by omega) ‹_›), HG.out⟩
      · exact ⟨ret_pair (at_name 6 (by omega) ‹_›), HG.out⟩
      · exact ⟨ret_pair (at_none ‹_› ‹_› ‹_› ‹_› ‹_› ‹_› ‹_›), HG.out⟩

theorem lk_long (s : ByteArray) (w0 : s.size ≤ maxLen) (hs : 9 < s.size) (w : World) :
    Calls Try.prog 26 #[.string s] w fun e w' => e = .returned (.tuple #[.int .u64 (lkI (Low s).toList), .bool (lkB (Low s).toList)]) ∧ Grown w w' := by
  unfold maxLen at w0
  have H : Hid (0 = lkI (Low s).toList ∧ false = lkB (Low s).toList) := lk_no fun k hk h => by
    have := (low_iff s _).1 h
    have := (letters k hk).1
    have := cl_len k hk
    omega
  go_enter Try.func26, Try.ntmps26
  go_wp2
  go_ret2
  exact ⟨ret_pair H.out, (Grown.refl w).alloc _ _⟩

/-- lookupCavageParam, whole -/
theorem lk_any (s : ByteArray) (w0 : s.size ≤ maxLen) (w : World) :
    Calls Try.prog 26 #[.string s] w fun e w' => e = .returned (.tuple #[.int .u64 (lkI (Low s).toList), .bool (lkB (Low s).toList)]) ∧ Grown w w' := by
  by_cases h : s.size ≤ 9
  · exact lk_short s h w
  · exact lk_long s w0 (by omega) w

/-- ZZLookupCavageParam -/
theorem zzlk_any (s : ByteArray) (w0 : s.size ≤ maxLen) (w : World) :
    Calls Try.prog 11 #[.string s] w fun e w' => e = .returned (.tuple #[.int .u64 (lkI (Low s).toList), .bool (lkB (Low s).toList)]) ∧ Grown w w' := by
  go_enter Try.func11, Try.ntmps11
  go_wp2_with (go_at_call 26; refine (lk_any _ w0 _).mono ?_; rintro e w' ⟨rfl, hg⟩)
  go_ret2
  exact ⟨rfl, hg⟩
end Go.Proofs.Qxb6000762a.Msub
