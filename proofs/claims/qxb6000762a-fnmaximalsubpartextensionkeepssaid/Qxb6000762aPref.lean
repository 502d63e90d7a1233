import Derived.Test.Qxb6000762aMsub
import Derived.Test.Qxb6000762aPrefPlain
import Derived.Deep.Cut
namespace Go.Proofs.Qxb6000762a.Msub
open Go.ChangeShapes Go.WideShapes Go.ChangeAt Go.RowKit

/-- seqLen -/
theorem sl_any (a : Int) (h0 : 0 ≤ a) (h1 : a ≤ 255) (w : World) :
    Calls Try.prog 28 #[.int .u8 a] w fun e w' => e = .returned (.int .i64 (sl a)) ∧ w' = w := by
  go_enter Try.func28, Try.ntmps28
  go_wp2
  all_goals
    go_ret
    refine ⟨ret_int ?_, rfl⟩
    unfold sl
    repeat' split
    all_goals omega

theorem ret_bool {a b : Bool} (h : a = b) : Ending.returned (.bool a) = .returned (.bool b) := by rw [h]
theorem yes_of {b : Bool} {Q : Prop} (p : b = true ↔ Q) (h : Q) : true = b := (p.2 h).symm
theorem no_of {b : Bool} {Q : Prop} (p : b = true ↔ Q) (h : ¬ Q) : false = b := (Bool.eq_false_iff.2 fun e => h (p.1 e)).symm

theorem hid_ends (d : Nat) (hd : d ≤ 3) (x : Int) (h0 : 0 ≤ x) (h1 : x * 2 ^ (6 * d) < 4294967296) :
    Hid (x * 2 ^ (6 * d) % 4294967296 = x * 2 ^ (6 * d)) ∧
    Hid (bits .or .u32 (x * 2 ^ (6 * d) % 4294967296) ((2 ^ (6 * d) - 1) % 4294967296) = x * 2 ^ (6 * d) + (2 ^ (6 * d) - 1)) := ends d hd x h0 h1

set_option maxRecDepth 100000 in
set_option maxHeartbeats 1000000 in
theorem pok1 (s : ByteArray) (hp : 1 ≤ s.size) (hn : sl (bt s 0) = 1) (hq : s.size ≤ 1) (w : World) :
    Calls Try.prog 23 #[.string s] w fun e w' => e = .returned (.bool true) ∧ w' = w := by
  have hb := bt_bd s 0
  have h1 := hb.1
  have h2 := hb.2
  clear hb
  have e0 := bt_get s 0 (by omega)
  have HN : Hid (sl (bt s 0) = 1) := hn
  clear hn
  obtain ⟨x, hx⟩ : ∃ x, bits BinOp.and IntKind.u8 (bt s 0) 127 = x := ⟨_, rfl⟩
  have hx0 : 0 ≤ x ∧ x < 128 := by
    have hm : bits BinOp.and IntKind.u8 (bt s 0) 127 = bt s 0 % 128 := bits_mask .u8 8 (by decide) wraps_u8 7 (by decide) (bt s 0) h1 (by omega)
    rw [← hx, hm]; omega
  have x1 := hx0.1
  have x2 := hx0.2
  have em : x % 4294967296 = x := by omega
  have eo : bits BinOp.or IntKind.u32 x 0 = x := by rw [u32_join 0 x 0 (by omega) (by omega) (by omega) (by omega) (by omega) (by omega)]; omega
  clear hx0
  go_enter Try.func23, Try.ntmps23
  go_wp2_with (go_at_call 28; refine (sl_any _ h1 h2 _).mono ?_; rintro e w' ⟨rfl, rfl⟩; rw [HN.out])
  go_loop [4, 7, 8] (fun v i c => i = .int .i64 1 ∧ v = .int .u32 x) (fun _ i _ => 0)
  case atStart => exact ⟨rfl, rfl⟩
  case round =>
    obtain ⟨rfl, rfl⟩ := hrel
    go_wp2
    go_ret
    exact ⟨rfl, rfl⟩

set_option maxRecDepth 100000 in
set_option maxHeartbeats 1000000 in
theorem pok2 (s : ByteArray) (hp : 1 ≤ s.size) (hn : sl (bt s 0) = 2) (hq : s.size ≤ 2) (w : World) :
    Calls Try.prog 23 #[.string s] w fun e w' => e = .returned (.bool (pokB 2 128 2047 (bt s 0 % 32) s)) ∧ w' = w := by
  have hb := bt_bd s 0
  have h1 := hb.1
  have h2 := hb.2
  clear hb
  have e0 := bt_get s 0 (by omega)
  have HN : Hid (sl (bt s 0) = 2) := hn
  clear hn
  have HL : Hid (0 ≤ bt s 0 % 32 ∧ bt s 0 % 32 < 32) := ⟨by omega, by omega⟩
  go_enter Try.func23, Try.ntmps23
  go_wp2_with (go_at_call 28; refine (sl_any _ h1 h2 _).mono ?_; rintro e w' ⟨rfl, rfl⟩; rw [HN.out])
  go_loop [4, 7, 8] (fun v i c => ∃ k : Nat, 1 ≤ k ∧ k ≤ s.size ∧ i = .int .i64 k ∧ v = .int .u32 (pv (bt s 0 % 32) s (k - 1)) ∧ Cont s k) (fun _ i _ => s.size - (intOf i).toNat)
  case atStart => exact ⟨1, Nat.le_refl _, hp, rfl, rfl, fun j b a => absurd b (by omega)⟩
  case round =>
    obtain ⟨k, hk1, hk2, rfl, rfl, hc⟩ := hrel
    have HC : Hid (Cont s k) := hc
    clear hc
    by_cases hlt : k < s.size
    · have hbk := bt_bd s k
      have g1 := hbk.1
      have g2 := hbk.2
      clear hbk
      have ek := bt_get s k hlt
      obtain ⟨x, hx⟩ : ∃ x, pv (bt s 0 % 32) s (k - 1) = x := ⟨_, rfl⟩
      have HX : Hid (pv (bt s 0 % 32) s (k - 1) = x) := hx
      have hxb := pv_bd (bt s 0 % 32) s (k - 1) (by omega) (by omega) (by omega)
      rw [hx] at hxb ⊢
      have x1 := hxb.1
      have x2 := hxb.2
      clear hx hxb
      go_wp2
      · go_ret
        exact ⟨ret_bool (not_pok hk1 hlt (by omega)), rfl⟩
      · go_round
        case rel =>
          refine ⟨k + 1, by omega, by omega, by go_num, ?_, ?_⟩
          · rw [or64 x _ x1 x2, ← HX.out]
            obtain ⟨j, rfl⟩ : ∃ j, k = j + 1 := ⟨k - 1, by omega⟩
            rfl
          · intro j b a
            by_cases hj : j = k
            · subst hj; omega
            · exact HC.out j (by omega) a
        case measure => simp [intOf]; omega
      · go_ret
        exact ⟨ret_bool (not_pok hk1 hlt (by omega)), rfl⟩
    · obtain rfl : k = s.size := by omega
      have hsc := scaled2 (bt s 0 % 32) s s.size hp hq HL.out.1 HL.out.2
      obtain ⟨x, hx⟩ : ∃ x, pv (bt s 0 % 32) s (s.size - 1) = x := ⟨_, rfl⟩
      rw [hx] at hsc ⊢
      have x1 := hsc.1
      obtain ⟨HE1, HE2⟩ := hid_ends (2 - s.size) (by omega) x hsc.1 hsc.2
      have HP : Hid (pokB 2 128 2047 (bt s 0 % 32) s = true ↔ Fit 128 2047 (x * 2 ^ (6 * (2 - s.size))) (x * 2 ^ (6 * (2 - s.size)) + (2 ^ (6 * (2 - s.size)) - 1))) := by
        rw [pokB_iff]; unfold POKn; rw [hx]; exact ⟨fun h => h.2, fun h => ⟨HC.out, h⟩⟩
      clear hx hsc
      go_wp2
      all_goals
        go_ret
        refine ⟨ret_bool ?_, rfl⟩
        have p := HP.out
        simp only [HE2.out] at *
        simp only [HE1.out] at *
        generalize pokB 2 128 2047 (bt s 0 % 32) s = Q at *
        unfold Fit at p
        generalize x * 2 ^ (6 * (2 - s.size)) = lo at *
        generalize lo + (2 ^ (6 * (2 - s.size)) - 1) = hi at *
        first
          | exact yes_of p (by omega)
          | exact no_of p (by omega)

set_option maxRecDepth 100000 in
set_option maxHeartbeats 1000000 in
theorem pok3 (s : ByteArray) (hp : 1 ≤ s.size) (hn : sl (bt s 0) = 3) (hq : s.size ≤ 3) (w : World) :
    Calls Try.prog 23 #[.string s] w fun e w' => e = .returned (.bool (pokB 3 2048 65535 (bt s 0 % 16) s)) ∧ w' = w := by
  have hb := bt_bd s 0
  have h1 := hb.1
  have h2 := hb.2
  clear hb
  have e0 := bt_get s 0 (by omega)
  have HN : Hid (sl (bt s 0) = 3) := hn
  clear hn
  have HL : Hid (0 ≤ bt s 0 % 16 ∧ bt s 0 % 16 < 16) := ⟨by omega, by omega⟩
  go_enter Try.func23, Try.ntmps23
  go_wp2_with (go_at_call 28; refine (sl_any _ h1 h2 _).mono ?_; rintro e w' ⟨rfl, rfl⟩; rw [HN.out])
  go_loop [4, 7, 8] (fun v i c => ∃ k : Nat, 1 ≤ k ∧ k ≤ s.size ∧ i = .int .i64 k ∧ v = .int .u32 (pv (bt s 0 % 16) s (k - 1)) ∧ Cont s k) (fun _ i _ => s.size - (intOf i).toNat)
  case atStart => exact ⟨1, Nat.le_refl _, hp, rfl, rfl, fun j b a => absurd b (by omega)⟩
  case round =>
    obtain ⟨k, hk1, hk2, rfl, rfl, hc⟩ := hrel
    have HC : Hid (Cont s k) := hc
    clear hc
    by_cases hlt : k < s.size
    · have hbk := bt_bd s k
      have g1 := hbk.1
      have g2 := hbk.2
      clear hbk
      have ek := bt_get s k hlt
      obtain ⟨x, hx⟩ : ∃ x, pv (bt s 0 % 16) s (k - 1) = x := ⟨_, rfl⟩
      have HX : Hid (pv (bt s 0 % 16) s (k - 1) = x) := hx
      have hxb := pv_bd (bt s 0 % 16) s (k - 1) (by omega) (by omega) (by omega)
      rw [hx] at hxb ⊢
      have x1 := hxb.1
      have x2 := hxb.2
      clear hx hxb
      go_wp2
      · go_ret
        exact ⟨ret_bool (not_pok hk1 hlt (by omega)), rfl⟩
      · go_round
        case rel =>
          refine ⟨k + 1, by omega, by omega, by go_num, ?_, ?_⟩
          · rw [or64 x _ x1 x2, ← HX.out]
            obtain ⟨j, rfl⟩ : ∃ j, k = j + 1 := ⟨k - 1, by omega⟩
            rfl
          · intro j b a
            by_cases hj : j = k
            · subst hj; omega
            · exact HC.out j (by omega) a
        case measure => simp [intOf]; omega
      · go_ret
        exact ⟨ret_bool (not_pok hk1 hlt (by omega)), rfl⟩
    · obtain rfl : k = s.size := by omega
      have hsc := scaled3 (bt s 0 % 16) s s.size hp hq HL.out.1 HL.out.2
      obtain ⟨x, hx⟩ : ∃ x, pv (bt s 0 % 16) s (s.size - 1) = x := ⟨_, rfl⟩
      rw [hx] at hsc ⊢
      have x1 := hsc.1
      obtain ⟨HE1, HE2⟩ := hid_ends (3 - s.size) (by omega) x hsc.1 hsc.2
      have HP : Hid (pokB 3 2048 65535 (bt s 0 % 16) s = true ↔ Fit 2048 65535 (x * 2 ^ (6 * (3 - s.size))) (x * 2 ^ (6 * (3 - s.size)) + (2 ^ (6 * (3 - s.size)) - 1))) := by
        rw [pokB_iff]; unfold POKn; rw [hx]; exact ⟨fun h => h.2, fun h => ⟨HC.out, h⟩⟩
      clear hx hsc
      go_wp2
      all_goals
        go_ret
        refine ⟨ret_bool ?_, rfl⟩
        have p := HP.out
        simp only [HE2.out] at *
        simp only [HE1.out] at *
        generalize pokB 3 2048 65535 (bt s 0 % 16) s = Q at *
        unfold Fit at p
        generalize x * 2 ^ (6 * (3 - s.size)) = lo at *
        generalize lo + (2 ^ (6 * (3 - s.size)) - 1) = hi at *
        first
          | exact yes_of p (by omega)
          | exact no_of p (by omega)

def pok4B (s : ByteArray) : Bool := pokB 4 65536 1114111 (bt s 0 % 8) s
theorem not_pok4 {s : ByteArray} {k : Nat} (h1 : 1 ≤ k) (h2 : k < s.size) (h : bt s k < 128 ∨ 191 < bt s k) : false = pok4B s := not_pok h1 h2 h

set_option maxRecDepth 100000 in
set_option maxHeartbeats 1000000 in
theorem pok4 (s : ByteArray) (hp : 1 ≤ s.size) (hn : sl (bt s 0) = 4) (hq : s.size ≤ 4) (w : World) :
    Calls Try.prog 23 #[.string s] w fun e w' => e = .returned (.bool (pok4B s)) ∧ w' = w := by
  have hb := bt_bd s 0
  have h1 := hb.1
  have h2 := hb.2
  clear hb
  have e0 := bt_get s 0 (by omega)
  have HN : Hid (sl (bt s 0) = 4) := hn
  clear hn
  have HL : Hid (0 ≤ bt s 0 % 8 ∧ bt s 0 % 8 < 8) := ⟨by omega, by omega⟩
  go_enter Try.func23, Try.ntmps23
  go_wp2_with (go_at_call 28; refine (sl_any _ h1 h2 _).mono ?_; rintro e w' ⟨rfl, rfl⟩; rw [HN.out])
  go_loop [4, 7, 8] (fun v i c => ∃ k : Nat, 1 ≤ k ∧ k ≤ s.size ∧ i = .int .i64 k ∧ v = .int .u32 (pv (bt s 0 % 8) s (k - 1)) ∧ Cont s k) (fun _ i _ => s.size - (intOf i).toNat)
  case atStart => exact ⟨1, Nat.le_refl _, hp, rfl, rfl, fun j b a => absurd b (by omega)⟩
  case round =>
    obtain ⟨k, hk1, hk2, rfl, rfl, hc⟩ := hrel
    have HC : Hid (Cont s k) := hc
    clear hc
    by_cases hlt : k < s.size
    · have hbk := bt_bd s k
      have g1 := hbk.1
      have g2 := hbk.2
      clear hbk
      have ek := bt_get s k hlt
      obtain ⟨x, hx⟩ : ∃ x, pv (bt s 0 % 8) s (k - 1) = x := ⟨_, rfl⟩
      have HX : Hid (pv (bt s 0 % 8) s (k - 1) = x) := hx
      have hxb := pv_bd (bt s 0 % 8) s (k - 1) (by omega) (by omega) (by omega)
      rw [hx] at hxb ⊢
      have x1 := hxb.1
      have x2 := hxb.2
      clear hx hxb
      go_wp2
      · go_ret
        exact ⟨ret_bool (not_pok4 hk1 hlt (by omega)), rfl⟩
      · go_round
        case rel =>
          refine ⟨k + 1, by omega, by omega, by go_num, ?_, ?_⟩
          · rw [or64 x _ x1 x2, ← HX.out]
            obtain ⟨j, rfl⟩ : ∃ j, k = j + 1 := ⟨k - 1, by omega⟩
            rfl
          · intro j b a
            by_cases hj : j = k
            · subst hj; omega
            · exact HC.out j (by omega) a
        case measure => simp [intOf]; omega
      · go_ret
        exact ⟨ret_bool (not_pok4 hk1 hlt (by omega)), rfl⟩
    · obtain rfl : k = s.size := by omega
      have hsc := scaled4 (bt s 0 % 8) s s.size hp hq HL.out.1 HL.out.2
      obtain ⟨x, hx⟩ : ∃ x, pv (bt s 0 % 8) s (s.size - 1) = x := ⟨_, rfl⟩
      rw [hx] at hsc ⊢
      have x1 := hsc.1
      obtain ⟨HE1, HE2⟩ := hid_ends (4 - s.size) (by omega) x hsc.1 hsc.2
      have HP : Hid (pok4B s = true ↔ Fit 65536 1114111 (x * 2 ^ (6 * (4 - s.size))) (x * 2 ^ (6 * (4 - s.size)) + (2 ^ (6 * (4 - s.size)) - 1))) := by
        unfold pok4B; rw [pokB_iff]; unfold POKn; rw [hx]; exact ⟨fun h => h.2, fun h => ⟨HC.out, h⟩⟩
      clear hx hsc
      go_upto_if 90 with fail
      go_cut [12] from 72 (fun a wx => ∃ z : Int, a = .int .u32 z ∧ Hid (z = max (x * 2 ^ (6 * (4 - s.size)) % 4294967296) 65536) ∧ wx = w')
      case first =>
        go_wp2
        all_goals
          go_meet
          case rel => exact ⟨_, rfl, by show _ = _; omega, rfl⟩
      case rest =>
        obtain ⟨z, rfl, HZ, rfl⟩ := hcut
        go_upto_if 95 with fail
        go_cut [13] from 72 (fun b wx => ∃ y : Int, b = .int .u32 y ∧ Hid (y = min (bits BinOp.or IntKind.u32 (x * 2 ^ (6 * (4 - s.size)) % 4294967296) ((2 ^ (6 * (4 - s.size)) - 1) % 4294967296)) 1114111) ∧ wx = wc)
        case first =>
          go_wp2
          all_goals
            go_meet
            case rel => exact ⟨_, rfl, by show _ = _; omega, rfl⟩
        case rest =>
          obtain ⟨y, rfl, HY, rfl⟩ := hcut
          go_wp2
          all_goals
            go_ret
            refine ⟨ret_bool ?_, rfl⟩
            have p := HP.out
            have ez := HZ.out
            have ey := HY.out
            rw [HE2.out] at ey
            rw [HE1.out] at ez
            generalize pok4B s = Q at *
            unfold Fit at p
            generalize x * 2 ^ (6 * (4 - s.size)) = lo at *
            generalize lo + (2 ^ (6 * (4 - s.size)) - 1) = hi at *
            first
              | exact yes_of p (by omega)
              | exact no_of p (by omega)
end Go.Proofs.Qxb6000762a.Msub
