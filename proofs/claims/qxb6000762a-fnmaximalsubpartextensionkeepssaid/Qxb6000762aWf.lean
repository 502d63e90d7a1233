import Derived.Test.Qxb6000762aPref
import Derived.Test.Qxb6000762aPrefLaws
namespace Go.Proofs.Qxb6000762a.Msub
open Go.ChangeShapes Go.WideShapes Go.ChangeAt Go.RowKit

set_option maxRecDepth 100000 in
theorem pok_long (s : ByteArray) (w0 : s.size ≤ maxLen) (hp : 1 ≤ s.size) (hn : sl (bt s 0) < s.size) (hq : ¬ sl (bt s 0) = 0) (w : World) :
    Calls Try.prog 23 #[.string s] w fun e w' => e = .returned (.bool false) ∧ w' = w := by
  unfold maxLen at w0
  have hb := bt_bd s 0
  have h1 := hb.1
  have h2 := hb.2
  clear hb
  have e0 := bt_get s 0 (by omega)
  have hc := sl_cases (bt s 0)
  obtain ⟨n, hn'⟩ : ∃ n, sl (bt s 0) = n := ⟨_, rfl⟩
  have HN : Hid (sl (bt s 0) = n) := hn'
  rw [hn'] at hn hq hc
  have hn0 : 1 ≤ n := by omega
  clear hn' hc hq
  go_enter Try.func23, Try.ntmps23
  go_wp2_with (go_at_call 28; refine (sl_any _ h1 h2 _).mono ?_; rintro e w' ⟨rfl, rfl⟩; rw [HN.out])
  go_ret
  exact ⟨rfl, rfl⟩

set_option maxRecDepth 100000 in
theorem pok_zero (s : ByteArray) (hp : 1 ≤ s.size) (hn : sl (bt s 0) = 0) (w : World) :
    Calls Try.prog 23 #[.string s] w fun e w' => e = .returned (.bool false) ∧ w' = w := by
  have hb := bt_bd s 0
  have h1 := hb.1
  have h2 := hb.2
  clear hb
  have e0 := bt_get s 0 (by omega)
  have HN : Hid (sl (bt s 0) = 0) := hn
  clear hn
  go_enter Try.func23, Try.ntmps23
  go_wp2_with (go_at_call 28; refine (sl_any _ h1 h2 _).mono ?_; rintro e w' ⟨rfl, rfl⟩; rw [HN.out])
  go_ret
  exact ⟨rfl, rfl⟩

/-- prefixOK, whole -/
theorem pok_any (s : ByteArray) (w0 : s.size ≤ maxLen) (hp : 1 ≤ s.size) (w : World) :
    Calls Try.prog 23 #[.string s] w fun e w' => e = .returned (.bool (pokS s)) ∧ w' = w := by
  by_cases h0 : sl (bt s 0) = 0
  · rw [pokS_0 h0]; exact pok_zero s hp h0 w
  · by_cases hl : sl (bt s 0) < s.size
    · rw [pokS_long hl]; exact pok_long s w0 hp hl h0 w
    · rcases sl_cases (bt s 0) with h | h | h | h | h
      · exact absurd h h0
      · rw [pokS_1 h (by omega)]; exact pok1 s hp h (by omega) w
      · rw [pokS_2 h (by omega)]; exact pok2 s hp h (by omega) w
      · rw [pokS_3 h (by omega)]; exact pok3 s hp h (by omega) w
      · rw [pokS_4 h (by omega)]; exact pok4 s hp h (by omega) w

set_option maxRecDepth 100000 in
/-- beginsWellFormed, whole -/
theorem wf_any (s : ByteArray) (w0 : s.size ≤ maxLen) (hp : 1 ≤ s.size) (w : World) :
    Calls Try.prog 21 #[.string s] w fun e w' => e = .returned (.bool (wfS s)) ∧ w' = w := by
  have hb := bt_bd s 0
  have h1 := hb.1
  have h2 := hb.2
  clear hb
  have e0 := bt_get s 0 (by omega)
  have hc := sl_cases (bt s 0)
  by_cases hn : sl (bt s 0) = 0 ∨ (s.size : Int) < sl (bt s 0)
  · rw [wfS_no hn]
    obtain ⟨n, hn'⟩ : ∃ n, sl (bt s 0) = n := ⟨_, rfl⟩
    have HN : Hid (sl (bt s 0) = n) := hn'
    rw [hn'] at hn hc
    unfold maxLen at w0
    by_cases hz : n = 0
    · have hz' : (n == 0) = true := by simp [hz]
      clear hn hn' hc hz
      go_enter Try.func21, Try.ntmps21
      go_wp2_with (go_at_call 28; refine (sl_any _ h1 h2 _).mono ?_; rintro e w' ⟨rfl, rfl⟩; rw [HN.out])
      go_ret
      exact ⟨rfl, rfl⟩
    · have hz' : (n == 0) = false := by simp [hz]
      have hlt : (s.size : Int) < n := by omega
      clear hn hn' hc hz
      go_enter Try.func21, Try.ntmps21
      go_wp2_with (go_at_call 28; refine (sl_any _ h1 h2 _).mono ?_; rintro e w' ⟨rfl, rfl⟩; rw [HN.out])
      go_ret
      exact ⟨rfl, rfl⟩
  · rw [wfS_yes hn]
    have hz := size_pre s (sl (bt s 0)).toNat (by omega)
    have hpk := fun W => pok_any (s.extract 0 (sl (bt s 0)).toNat) (by omega) (by omega) W
    obtain ⟨n, hn'⟩ : ∃ n, sl (bt s 0) = n := ⟨_, rfl⟩
    have HN : Hid (sl (bt s 0) = n) := hn'
    rw [hn'] at hn hc hpk ⊢
    have HP : Hid (∀ W, Calls Try.prog 23 #[.string (s.extract 0 n.toNat)] W fun e w' => e = .returned (.bool (pokS (s.extract 0 n.toNat))) ∧ w' = W) := hpk
    have hn1 : 1 ≤ n := by omega
    have hn2 : n ≤ s.size := by omega
    have hz' : (n == 0) = false := by simp; omega
    clear hn hn' hc hpk hz
    unfold maxLen at w0
    go_enter Try.func21, Try.ntmps21
    go_wp2_with (first | (go_at_call 28; refine (sl_any _ h1 h2 _).mono ?_; rintro e w' ⟨rfl, rfl⟩; rw [HN.out]) | (go_at_call 23; refine (HP.out _).mono ?_; rintro e w' ⟨rfl, rfl⟩))
    go_ret
    exact ⟨rfl, rfl⟩
end Go.Proofs.Qxb6000762a.Msub
