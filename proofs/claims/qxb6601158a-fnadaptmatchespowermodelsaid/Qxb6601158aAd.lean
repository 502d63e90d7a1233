import Derived.Test.Qxb6601158aRows
import Derived.WalkKit
import Derived.ProofKit
import Derived.OpenShut
import Derived.Test.Qxb6601158aAdPlain
namespace Go.Proofs.Qxb6601158a.Adapt
open Go.ChangeShapes Go.WideShapes Go.ChangeAt Go.RowKit

theorem ret_int {k : IntKind} {a b : Int} (h : a = b) : Ending.returned (.int k a) = .returned (.int k b) := by rw [h]
theorem int_eq {k : IntKind} {a b : Int} (h : a = b) : Value.int k a = .int k b := by rw [h]

theorem below (k : Nat) (h : k ≤ 11) : k = 0 ∨ k = 1 ∨ k = 2 ∨ k = 3 ∨ k = 4 ∨ k = 5 ∨ k = 6 ∨ k = 7 ∨ k = 8 ∨ k = 9 ∨ k = 10 ∨ k = 11 := by omega

set_option maxHeartbeats 1000000 in
/-- pow35 -/
theorem pow_any (k : Nat) (h : k ≤ 11) (w : World) :
    Calls Try.prog 17 #[.int .i64 k] w fun e w' => e = .returned (.int .i64 (p35 k)) ∧ w' = w := by
  rcases below k h with rfl | rfl | rfl | rfl | rfl | rfl | rfl | rfl | rfl | rfl | rfl | rfl
  all_goals
    clear h
    go_enter Try.func17, Try.ntmps17
    go_wp2
    go_ret
    refine ⟨ret_int ?_, rfl⟩
    first | rfl | (simp only [p35]; omega)

/-- the scaled delta -/
def dl (a np : Int) : Int := a + a / np

theorem dl_bd {a np : Int} (h0 : 0 ≤ a) (h1 : a ≤ 4611686018427387903) (h2 : 1 ≤ np) : 0 ≤ dl a np ∧ dl a np ≤ 9223372036854775807 := by
  have := div_bd a np h0 h2
  unfold dl; omega

set_option maxHeartbeats 1000000 in
/-- adapt, first -/
theorem ad_first (d np : Int) (h0 : 0 ≤ d) (h1 : d ≤ 9223372036854775807) (h2 : 1 ≤ np) (h3 : np ≤ 9223372036854775807) (w : World) :
    Calls Try.prog 16 #[.int .i64 d, .int .i64 np, .bool true] w fun e w' => e = .returned (.int .i64 (res (dl (d / 700) np) (lv (dl (d / 700) np)))) ∧ w' = w := by
  have hq := div_bd (d / 700) np (by omega) h2
  have q1 := hq.1
  have q2 := hq.2
  have hD := dl_bd (a := d / 700) (np := np) (by omega) (by omega) h2
  obtain ⟨D, hDD⟩ : ∃ D, dl (d / 700) np = D := ⟨_, rfl⟩
  have HD : Hid (dl (d / 700) np = D) := hDD
  rw [hDD] at hD ⊢
  have hD0 := hD.1
  have HD1 : Hid (D ≤ 9223372036854775807) := hD.2
  clear hq hD hDD
  go_enter Try.func16, Try.ntmps16
  go_wp2
  go_loop [0, 7] (fun a b => ∃ t : Nat, t ≤ 11 ∧ a = .int .i64 (D / p35 t) ∧ b = .int .i64 (36 * (t : Int)) ∧ Hid (∀ s, s < t → 456 * p35 s ≤ D)) (fun a _ => (intOf a).toNat)
  case atStart =>
    refine ⟨0, by omega, int_eq ?_, rfl, fun s hs => absurd hs (by omega)⟩
    have e := HD.out
    unfold dl at e
    rw [e]; simp only [p35]; omega
  case round =>
    obtain ⟨t, ht, rfl, rfl, HS⟩ := hrel
    have hdb := div_bd D (p35 t) hD0 (p35_pos t)
    have hge := div_ge D (p35 t) (p35_pos t)
    have hnx := div_next D t
    have hl1 := HD1.out
    obtain ⟨x, hx⟩ : ∃ x, D / p35 t = x := ⟨_, rfl⟩
    have HX : Hid (D / p35 t = x) := hx
    rw [hx] at hdb hge hnx ⊢
    have x0 := hdb.1
    have x1 : x ≤ 9223372036854775807 := by omega
    by_cases hc : 455 < x
    · have HC : Hid (456 * p35 t ≤ D) := hge.1 hc
      have HN : Hid (x / 35 = D / p35 (t + 1)) := hnx
      clear hdb hge hnx hl1 hx
      go_wp2
      go_round
      case rel =>
        refine ⟨t + 1, ?_, int_eq HN.out, int_eq (by omega), fun s hs => ?_⟩
        · have := le10 HD1.out HC.out; omega
        · by_cases e : s = t
          · subst e; exact HC.out
          · exact HS.out s (by omega)
      case measure => simp [intOf]; omega
    · have HC : Hid (¬ 456 * p35 t ≤ D) := fun h => hc (hge.2 h)
      have hc' : x ≤ 455 := by omega
      have hf := frac_bd x x0
      have f1 := hf.1
      have f2 := hf.2
      clear hf
      clear hdb hge hnx hl1 hx hc
      go_wp2
      go_ret
      refine ⟨ret_int ?_, rfl⟩
      have hn := HC.out
      rw [lv_eq HD1.out (j := t) ⟨HS.out, by omega⟩]
      unfold res
      rw [HX.out]
set_option maxHeartbeats 1000000 in
/-- adapt, later -/
theorem ad_later (d np : Int) (h0 : 0 ≤ d) (h1 : d ≤ 9223372036854775807) (h2 : 1 ≤ np) (h3 : np ≤ 9223372036854775807) (w : World) :
    Calls Try.prog 16 #[.int .i64 d, .int .i64 np, .bool false] w fun e w' => e = .returned (.int .i64 (res (dl (d / 2) np) (lv (dl (d / 2) np)))) ∧ w' = w := by
  have hq := div_bd (d / 2) np (by omega) h2
  have q1 := hq.1
  have q2 := hq.2
  have hD := dl_bd (a := d / 2) (np := np) (by omega) (by omega) h2
  obtain ⟨D, hDD⟩ : ∃ D, dl (d / 2) np = D := ⟨_, rfl⟩
  have HD : Hid (dl (d / 2) np = D) := hDD
  rw [hDD] at hD ⊢
  have hD0 := hD.1
  have HD1 : Hid (D ≤ 9223372036854775807) := hD.2
  clear hq hD hDD
  go_enter Try.func16, Try.ntmps16
  go_wp2
  go_loop [0, 7] (fun a b => ∃ t : Nat, t ≤ 11 ∧ a = .int .i64 (D / p35 t) ∧ b = .int .i64 (36 * (t : Int)) ∧ Hid (∀ s, s < t → 456 * p35 s ≤ D)) (fun a _ => (intOf a).toNat)
  case atStart =>
    refine ⟨0, by omega, int_eq ?_, rfl, fun s hs => absurd hs (by omega)⟩
    have e := HD.out
    unfold dl at e
    rw [e]; simp only [p35]; omega
  case round =>
    obtain ⟨t, ht, rfl, rfl, HS⟩ := hrel
    have hdb := div_bd D (p35 t) hD0 (p35_pos t)
    have hge := div_ge D (p35 t) (p35_pos t)
    have hnx := div_next D t
    have hl1 := HD1.out
    obtain ⟨x, hx⟩ : ∃ x, D / p35 t = x := ⟨_, rfl⟩
    have HX : Hid (D / p35 t = x) := hx
    rw [hx] at hdb hge hnx ⊢
    have x0 := hdb.1
    have x1 : x ≤ 9223372036854775807 := by omega
    by_cases hc : 455 < x
    · have HC : Hid (456 * p35 t ≤ D) := hge.1 hc
      have HN : Hid (x / 35 = D / p35 (t + 1)) := hnx
      clear hdb hge hnx hl1 hx
      go_wp2
      go_round
      case rel =>
        refine ⟨t + 1, ?_, int_eq HN.out, int_eq (by omega), fun s hs => ?_⟩
        · have := le10 HD1.out HC.out; omega
        · by_cases e : s = t
          · subst e; exact HC.out
          · exact HS.out s (by omega)
      case measure => simp [intOf]; omega
    · have HC : Hid (¬ 456 * p35 t ≤ D) := fun h => hc (hge.2 h)
      have hc' : x ≤ 455 := by omega
      have hf := frac_bd x x0
      have f1 := hf.1
      have f2 := hf.2
      clear hf
      clear hdb hge hnx hl1 hx hc
      go_wp2
      go_ret
      refine ⟨ret_int ?_, rfl⟩
      have hn := HC.out
      rw [lv_eq HD1.out (j := t) ⟨HS.out, by omega⟩]
      unfold res
      rw [HX.out]

/-- a / 700 or a / 2 -/
def d0 (d : Int) (f : Bool) : Int := if f then d / 700 else d / 2

/-- ZZAdapt -/
theorem zz_any (d np : Int) (f : Bool) (h0 : 0 ≤ d) (h1 : d ≤ 9223372036854775807) (h2 : 1 ≤ np) (h3 : np ≤ 9223372036854775807) (w : World) :
    Calls Try.prog 11 #[.int .i64 d, .int .i64 np, .bool f] w fun e w' => e = .returned (.int .i64 (res (dl (d0 d f) np) (lv (dl (d0 d f) np)))) ∧ w' = w := by
  cases f
  · go_enter Try.func11, Try.ntmps11
    go_wp2_with (go_at_call 16; refine (ad_later _ _ h0 h1 h2 h3 _).mono ?_; rintro e w' ⟨rfl, rfl⟩)
    go_ret
    exact ⟨rfl, rfl⟩
  · go_enter Try.func11, Try.ntmps11
    go_wp2_with (go_at_call 16; refine (ad_first _ _ h0 h1 h2 h3 _).mono ?_; rintro e w' ⟨rfl, rfl⟩)
    go_ret
    exact ⟨rfl, rfl⟩

set_option maxHeartbeats 1000000 in
/-- adaptModel, first -/
theorem mo_first (d np : Int) (h0 : 0 ≤ d) (h1 : d ≤ 9223372036854775807) (h2 : 1 ≤ np) (h3 : np ≤ 9223372036854775807) (w : World) :
    Calls Try.prog 12 #[.int .i64 d, .int .i64 np, .bool true] w fun e w' => e = .returned (.int .i64 (res (dl (d / 700) np) (lv (dl (d / 700) np)))) ∧ w' = w := by
  have hq := div_bd (d / 700) np (by omega) h2
  have q1 := hq.1
  have q2 := hq.2
  have hD := dl_bd (a := d / 700) (np := np) (by omega) (by omega) h2
  obtain ⟨D, hDD⟩ : ∃ D, dl (d / 700) np = D := ⟨_, rfl⟩
  have eD : d / 700 + d / 700 / np = D := hDD
  rw [hDD] at hD ⊢
  have hD0 := hD.1
  have hD1 := hD.2
  clear hq hD hDD
  go_enter Try.func12, Try.ntmps12
  go_wp2
  go_loop [9, 10] (fun b a => ∃ k j : Nat, k ≤ 11 ∧ a = .int .i64 (k : Int) ∧ b = .int .i64 (j : Int) ∧ Hid (Seen D k j)) (fun _ a => 11 - (intOf a).toNat)
  case atStart => exact ⟨0, 0, by omega, rfl, rfl, seen_zero D⟩
  case round =>
    obtain ⟨k, j, hk, rfl, rfl, HS⟩ := hrel
    by_cases hlt : k ≤ 10
    · have hp := p35_pos k
      have hm := p35_mono (a := k) (b := 10) hlt
      have h10 := p35_10
      have hb : 456 * p35 k ≤ 9223372036854775807 := by omega
      clear hm h10
      by_cases c : 456 * p35 k ≤ D
      · go_wp2_with (go_at_call 17; refine (pow_any _ hk _).mono ?_; rintro e w' ⟨rfl, rfl⟩)
        go_round
        case rel => exact ⟨k + 1, k + 1, by omega, int_eq (by omega), int_eq (by omega), seen_hit HS.out c⟩
        case measure => simp [intOf]; omega
      · have c' : D < 456 * p35 k := by omega
        clear c
        go_wp2_with (go_at_call 17; refine (pow_any _ hk _).mono ?_; rintro e w' ⟨rfl, rfl⟩)
        go_round
        case rel => exact ⟨k + 1, j, by omega, int_eq (by omega), rfl, seen_miss HS.out c'⟩
        case measure => simp [intOf]; omega
    · obtain rfl : k = 11 := by omega
      have hj : j ≤ 11 := HS.out.1
      have hL := seen_lvl hD1 HS.out
      have HL : Hid (lv D = j) := lv_eq hD1 hL
      have hp := p35_pos j
      have hdb := div_bd D (p35 j) hD0 hp
      have hge := div_ge D (p35 j) hp
      have hlt2 := hL.2
      have x0 := hdb.1
      have x1 : D / p35 j ≤ 455 := by omega
      have hf := frac_bd (D / p35 j) x0
      have f1 := hf.1
      have f2 := hf.2
      clear hL hdb hge hlt2 hf
      go_wp2_with (go_at_call 17; refine (pow_any _ hj _).mono ?_; rintro e w' ⟨rfl, rfl⟩)
      go_ret
      refine ⟨ret_int ?_, rfl⟩
      rw [HL.out]
      rfl

set_option maxHeartbeats 1000000 in
/-- adaptModel, later -/
theorem mo_later (d np : Int) (h0 : 0 ≤ d) (h1 : d ≤ 9223372036854775807) (h2 : 1 ≤ np) (h3 : np ≤ 9223372036854775807) (w : World) :
    Calls Try.prog 12 #[.int .i64 d, .int .i64 np, .bool false] w fun e w' => e = .returned (.int .i64 (res (dl (d / 2) np) (lv (dl (d / 2) np)))) ∧ w' = w := by
  have hq := div_bd (d / 2) np (by omega) h2
  have q1 := hq.1
  have q2 := hq.2
  have hD := dl_bd (a := d / 2) (np := np) (by omega) (by omega) h2
  obtain ⟨D, hDD⟩ : ∃ D, dl (d / 2) np = D := ⟨_, rfl⟩
  have eD : d / 2 + d / 2 / np = D := hDD
  rw [hDD] at hD ⊢
  have hD0 := hD.1
  have hD1 := hD.2
  clear hq hD hDD
  go_enter Try.func12, Try.ntmps12
  go_wp2
  go_loop [9, 10] (fun b a => ∃ k j : Nat, k ≤ 11 ∧ a = .int .i64 (k : Int) ∧ b = .int .i64 (j : Int) ∧ Hid (Seen D k j)) (fun _ a => 11 - (intOf a).toNat)
  case atStart => exact ⟨0, 0, by omega, rfl, rfl, seen_zero D⟩
  case round =>
    obtain ⟨k, j, hk, rfl, rfl, HS⟩ := hrel
    by_cases hlt : k ≤ 10
    · have hp := p35_pos k
      have hm := p35_mono (a := k) (b := 10) hlt
      have h10 := p35_10
      have hb : 456 * p35 k ≤ 9223372036854775807 := by omega
      clear hm h10
      by_cases c : 456 * p35 k ≤ D
      · go_wp2_with (go_at_call 17; refine (pow_any _ hk _).mono ?_; rintro e w' ⟨rfl, rfl⟩)
        go_round
        case rel => exact ⟨k + 1, k + 1, by omega, int_eq (by omega), int_eq (by omega), seen_hit HS.out c⟩
        case measure => simp [intOf]; omega
      · have c' : D < 456 * p35 k := by omega
        clear c
        go_wp2_with (go_at_call 17; refine (pow_any _ hk _).mono ?_; rintro e w' ⟨rfl, rfl⟩)
        go_round
        case rel => exact ⟨k + 1, j, by omega, int_eq (by omega), rfl, seen_miss HS.out c'⟩
        case measure => simp [intOf]; omega
    · obtain rfl : k = 11 := by omega
      have hj : j ≤ 11 := HS.out.1
      have hL := seen_lvl hD1 HS.out
      have HL : Hid (lv D = j) := lv_eq hD1 hL
      have hp := p35_pos j
      have hdb := div_bd D (p35 j) hD0 hp
      have hge := div_ge D (p35 j) hp
      have hlt2 := hL.2
      have x0 := hdb.1
      have x1 : D / p35 j ≤ 455 := by omega
      have hf := frac_bd (D / p35 j) x0
      have f1 := hf.1
      have f2 := hf.2
      clear hL hdb hge hlt2 hf
      go_wp2_with (go_at_call 17; refine (pow_any _ hj _).mono ?_; rintro e w' ⟨rfl, rfl⟩)
      go_ret
      refine ⟨ret_int ?_, rfl⟩
      rw [HL.out]
      rfl

/-- adaptModel, whole -/
theorem mo_any (d np : Int) (f : Bool) (h0 : 0 ≤ d) (h1 : d ≤ 9223372036854775807) (h2 : 1 ≤ np) (h3 : np ≤ 9223372036854775807) (w : World) :
    Calls Try.prog 12 #[.int .i64 d, .int .i64 np, .bool f] w fun e w' => e = .returned (.int .i64 (res (dl (d0 d f) np) (lv (dl (d0 d f) np)))) ∧ w' = w := by
  cases f
  · exact mo_later d np h0 h1 h2 h3 w
  · exact mo_first d np h0 h1 h2 h3 w
end Go.Proofs.Qxb6601158a.Adapt
