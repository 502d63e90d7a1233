/-
  zzSender, (Message).Sender, (*LieIndex).ofSender: walks.
-/
import Derived.Test.Qxb6601175aFirst
import Derived.Test.Qxb6601175aEq
import Derived.Deep.RegionHeld3
import Derived.Deep.DrawnRows
set_option linter.unusedVariables false
namespace Go.Proofs.Qxb6601175a.Idx
open Go.ChangeShapes Go.WideShapes Go.ChangeAt Go.RowKit
attribute [local go_sem] eq_pair guard30
attribute [local go_sem] Go.wp_at_zero Go.wp_at_succ

/-- is the lie on a hand-over? -/
def hopB (h0 h1 : Int) : Bool := !(h0 == 0 && h1 == 0)

theorem hop_cases {h0 h1 : Int} (h : hopB h0 h1 = true) : (h0 == 0) = false ∨ ((h0 == 0) = true ∧ (h1 == 0) = false) := by
  unfold hopB at h
  cases e0 : (h0 == 0) <;> cases e1 : (h1 == 0) <;> simp_all
theorem hop_none {h0 h1 : Int} (h : hopB h0 h1 = false) : h0 = 0 ∧ h1 = 0 := by
  unfold hopB at h
  simpa using h

/-- the general who sends the lie's message; -1 where there is none -/
def sndI (n : Nat) (f : Nat → Int) (h0 h1 : Int) : Int := if hopB h0 h1 then h0 else if n = 0 then -1 else f (n - 1)
theorem snd_hop {n : Nat} {f : Nat → Int} {h0 h1 : Int} (h : hopB h0 h1 = true) : sndI n f h0 h1 = h0 := by unfold sndI; rw [if_pos h]
theorem snd_none {f : Nat → Int} {h0 h1 : Int} (h : hopB h0 h1 = false) : sndI 0 f h0 h1 = -1 := by unfold sndI; rw [if_neg (by rw [h]; decide), if_pos rfl]
theorem snd_last {n : Nat} {f : Nat → Int} {h0 h1 : Int} (h : hopB h0 h1 = false) (hn : 0 < n) : sndI n f h0 h1 = f (n - 1) := by unfold sndI; rw [if_neg (by rw [h]; decide), if_neg (by omega)]

set_option maxRecDepth 100000 in
set_option maxHeartbeats 400000 in
theorem zsend_hop (p : Value) (dest h0 h1 fr : Int) (od : ByteArray) (si : Bool) (st sd : Int) (w : World) (hh : hopB h0 h1 = true) :
    Calls Try.prog 8 #[.agg #[p, .int .i64 dest, .int .i64 h0, .int .i64 h1, .int .i64 fr, .string od, .bool si, .int .i64 st, .int .i64 sd]] w fun e w' => e = .returned (.int .i64 h0) ∧ w.Since w.heap.size w' := by
  rcases hop_cases hh with e0 | ⟨e0, e1⟩
  · clear hh
    go_enter Try.func8, Try.ntmps8
    go_wp2
    go_ret
    exact ⟨rfl, (World.Since.refl _ _).alloc (Nat.le_refl _) _⟩
  · clear hh
    go_enter Try.func8, Try.ntmps8
    go_wp2
    go_ret
    exact ⟨rfl, (World.Since.refl _ _).alloc (Nat.le_refl _) _⟩

set_option maxRecDepth 100000 in
set_option maxHeartbeats 400000 in
theorem zsend_none (A : Option Addr) (c : Nat) (dest fr : Int) (od : ByteArray) (si : Bool) (st sd : Int) (w : World) :
    Calls Try.prog 8 #[.agg #[.slice A 0 c, .int .i64 dest, .int .i64 0, .int .i64 0, .int .i64 fr, .string od, .bool si, .int .i64 st, .int .i64 sd]] w fun e w' => e = .returned (.int .i64 (-1)) ∧ w.Since w.heap.size w' := by
  go_enter Try.func8, Try.ntmps8
  go_wp2
  go_ret
  exact ⟨rfl, (World.Since.refl _ _).alloc (Nat.le_refl _) _⟩

set_option maxRecDepth 100000 in
set_option maxHeartbeats 400000 in
theorem zsend_last (b off n c : Nat) (v : Int) (dest fr : Int) (od : ByteArray) (si : Bool) (st sd : Int) (w : World) (hn : 1 ≤ n) (hn2 : n ≤ 1048576) (hc : w.cell? ⟨b, off + (n - 1), none⟩ = some (.int .i64 v)) :
    Calls Try.prog 8 #[.agg #[.slice (some ⟨b, off, none⟩) n c, .int .i64 dest, .int .i64 0, .int .i64 0, .int .i64 fr, .string od, .bool si, .int .i64 st, .int .i64 sd]] w fun e w' => e = .returned (.int .i64 v) ∧ w.Since w.heap.size w' := by
  have hb : b < w.heap.size := World.block_lt_of_cell? w _ hc
  go_enter Try.func8, Try.ntmps8
  go_wp2
  go_ret
  exact ⟨rfl, (World.Since.refl _ _).alloc (Nat.le_refl _) _⟩

/-- zzSender, whole -/
theorem zsend_any (A : Option Addr) (C : Nat) (l : Lie) (w : World) (hn : l.n ≤ 1048576) (h : PathR w A l) :
    Calls Try.prog 8 #[.agg #[.slice A l.n C, .int .i64 l.dest, .int .i64 l.h0, .int .i64 l.h1, .int .i64 l.fr, .string l.od, .bool l.si, .int .i64 l.st, .int .i64 l.sd]] w fun e w' =>
      e = .returned (.int .i64 (sndI l.n l.f l.h0 l.h1)) ∧ w.Since w.heap.size w' := by
  cases hh : hopB l.h0 l.h1
  · obtain ⟨e0, e1⟩ := hop_none hh
    by_cases h0 : l.n = 0
    · have e : sndI l.n l.f l.h0 l.h1 = -1 := by rw [h0]; exact snd_none hh
      rw [e, h0, e0, e1]
      exact zsend_none A C _ _ _ _ _ _ w
    · rw [snd_last hh (by omega), e0, e1]
      cases hA : A with
      | none => exact absurd (h.1 hA) h0
      | some a =>
        obtain ⟨b, off, rfl, hc⟩ := h.2 a hA (l.n - 1) (by omega)
        exact zsend_last b off l.n C _ _ _ _ _ _ _ w (by omega) hn hc
  · rw [snd_hop hh]
    exact zsend_hop _ _ _ _ _ _ _ _ _ w hh

set_option maxRecDepth 100000 in
set_option maxHeartbeats 400000 in
theorem msend_hop (p : Value) (dest h0 h1 : Int) (w : World) (hh : hopB h0 h1 = true) :
    Calls Try.prog 45 #[.agg #[p, .int .i64 dest, .int .i64 h0, .int .i64 h1]] w fun e w' => e = .returned (.int .i64 h0) ∧ w.Since w.heap.size w' := by
  rcases hop_cases hh with e0 | ⟨e0, e1⟩
  · clear hh
    go_enter Try.func45, Try.ntmps45
    go_wp2
    go_ret
    exact ⟨rfl, (World.Since.refl _ _).alloc (Nat.le_refl _) _⟩
  · clear hh
    go_enter Try.func45, Try.ntmps45
    go_wp2
    go_ret
    exact ⟨rfl, (World.Since.refl _ _).alloc (Nat.le_refl _) _⟩

set_option maxRecDepth 100000 in
set_option maxHeartbeats 400000 in
theorem msend_last (b off n c : Nat) (v : Int) (dest : Int) (w : World) (hn : 1 ≤ n) (hn2 : n ≤ 1048576) (hc : w.cell? ⟨b, off + (n - 1), none⟩ = some (.int .i64 v)) :
    Calls Try.prog 45 #[.agg #[.slice (some ⟨b, off, none⟩) n c, .int .i64 dest, .int .i64 0, .int .i64 0]] w fun e w' => e = .returned (.int .i64 v) ∧ w.Since w.heap.size w' := by
  have hb : b < w.heap.size := World.block_lt_of_cell? w _ hc
  go_enter Try.func45, Try.ntmps45
  go_wp2
  go_ret
  exact ⟨rfl, (World.Since.refl _ _).alloc (Nat.le_refl _) _⟩

/-- (Message).Sender, where there is a sender -/
theorem msend_any (A : Option Addr) (C : Nat) (l : Lie) (w : World) (hn : l.n ≤ 1048576) (h : PathR w A l) (hs : 0 ≤ sndI l.n l.f l.h0 l.h1) :
    Calls Try.prog 45 #[.agg #[.slice A l.n C, .int .i64 l.dest, .int .i64 l.h0, .int .i64 l.h1]] w fun e w' =>
      e = .returned (.int .i64 (sndI l.n l.f l.h0 l.h1)) ∧ w.Since w.heap.size w' := by
  cases hh : hopB l.h0 l.h1
  · obtain ⟨e0, e1⟩ := hop_none hh
    by_cases h0 : l.n = 0
    · have e : sndI l.n l.f l.h0 l.h1 = -1 := by rw [h0]; exact snd_none hh
      omega
    · rw [snd_last hh (by omega), e0, e1]
      cases hA : A with
      | none => exact absurd (h.1 hA) h0
      | some a =>
        obtain ⟨b, off, rfl, hc⟩ := h.2 a hA (l.n - 1) (by omega)
        exact msend_last b off l.n C _ _ w (by omega) hn hc
  · rw [snd_hop hh]
    exact msend_hop _ _ _ _ w hh

theorem since_box {w w2 : World} {o : Obj} (hs : (w.alloc o).drew.Since (w.alloc o).drew.heap.size w2) : w.Since w.heap.size w2 := by
  refine World.Since.trans (w' := (w.alloc o).drew) ((World.Since.refl _ _).alloc (Nat.le_refl _) _).drew ?_
  exact ⟨hs.os, hs.tape, hs.output, hs.size, fun j hj => hs.block j (by simp; omega)⟩

/-- a cell outlives what is made behind it -/
theorem cellS {W w2 : World} {a : Addr} {v : Value} (hs : W.Since W.heap.size w2) (h : W.cell? a = some v) : w2.cell? a = some v :=
  (hs.cell (World.block_lt_of_cell? W a h)).trans h
theorem keep5 {W w2 : World} {a b c d e : Addr} {va vb vc vd ve : Value} (hs : W.Since W.heap.size w2) (h : W.cell? a = some va ∧ W.cell? b = some vb ∧ W.cell? c = some vc ∧ W.cell? d = some vd ∧ W.cell? e = some ve) :
    w2.cell? a = some va ∧ w2.cell? b = some vb ∧ w2.cell? c = some vc ∧ w2.cell? d = some vd ∧ w2.cell? e = some ve :=
  ⟨cellS hs h.1, cellS hs h.2.1, cellS hs h.2.2.1, cellS hs h.2.2.2.1, cellS hs h.2.2.2.2⟩

set_option maxRecDepth 100000 in
set_option maxHeartbeats 2000000 in
theorem of_hop1 (A : Option Addr) (N C : Nat) (dest h0 h1 : Int) (bx bh G k : Nat) (w : World) (e0 : (h0 == 0) = false) (hG : G ≤ 65536) (hk : k ≤ G) (hx : w.cell? ⟨bx, 2, none⟩ = some (.slice (some ⟨bh, 0, none⟩) (G + 1) (G + 1)))
    (hS : ∀ W, w.Since w.heap.size W → Calls Try.prog 45 #[.agg #[.slice A N C, .int .i64 dest, .int .i64 h0, .int .i64 h1]] W fun e w' => e = .returned (.int .i64 k) ∧ W.Since W.heap.size w') :
    Calls Try.prog 42 #[.pointer (some ⟨bx, 0, none⟩), .agg #[.slice A N C, .int .i64 dest, .int .i64 h0, .int .i64 h1]] w fun e w' => e = .returned (.pointer (some ⟨bh, k, none⟩)) ∧ w.Since w.heap.size w' := by
  have hb : bx < w.heap.size := World.block_lt_of_cell? w _ hx
  have HS : Hid _ := hS
  clear hS
  have hk1 : (0 : Int) ≤ (k : Int) := by omega
  have hk2 : (k : Int) < ((G + 1 : Nat) : Int) := by omega
  have hk3 : (k : Int) < (G : Int) + 1 := by omega
  have hk4 : k < G + 1 := by omega
  have := World.new_ne w _ hx
  go_enter Try.func42, Try.ntmps42
  go_wp2_with fail
  go_region_held3 (fun w' => w'.cell? ⟨bx, 2, none⟩ = some (.slice (some ⟨bh, 0, none⟩) (G + 1) (G + 1)) ∧ w'.cell? ⟨w.heap.size, 0, none⟩ = some (.slice A N C) ∧ w'.cell? ⟨w.heap.size, 1, none⟩ = some (.int .i64 dest) ∧ w'.cell? ⟨w.heap.size, 2, none⟩ = some (.int .i64 h0) ∧ w'.cell? ⟨w.heap.size, 3, none⟩ = some (.int .i64 h1))
    (first | go_keep | (exact keep5 ‹_› ‹_›)) ((go_at_call 45; refine (HS.out _ ((World.Since.refl _ _).alloc (Nat.le_refl _) _).drew).mono ?_; rintro e w2 ⟨rfl, hs⟩))
  go_wp2
  go_ret
  exact ⟨rfl, since_box hs⟩

set_option maxRecDepth 100000 in
set_option maxHeartbeats 2000000 in
theorem of_hop2 (A : Option Addr) (N C : Nat) (dest h0 h1 : Int) (bx bh G k : Nat) (w : World) (e0 : (h0 == 0) = true) (e1 : (h1 == 0) = false) (hG : G ≤ 65536) (hk : k ≤ G) (hx : w.cell? ⟨bx, 2, none⟩ = some (.slice (some ⟨bh, 0, none⟩) (G + 1) (G + 1)))
    (hS : ∀ W, w.Since w.heap.size W → Calls Try.prog 45 #[.agg #[.slice A N C, .int .i64 dest, .int .i64 h0, .int .i64 h1]] W fun e w' => e = .returned (.int .i64 k) ∧ W.Since W.heap.size w') :
    Calls Try.prog 42 #[.pointer (some ⟨bx, 0, none⟩), .agg #[.slice A N C, .int .i64 dest, .int .i64 h0, .int .i64 h1]] w fun e w' => e = .returned (.pointer (some ⟨bh, k, none⟩)) ∧ w.Since w.heap.size w' := by
  have hb : bx < w.heap.size := World.block_lt_of_cell? w _ hx
  have HS : Hid _ := hS
  clear hS
  have hk1 : (0 : Int) ≤ (k : Int) := by omega
  have hk2 : (k : Int) < ((G + 1 : Nat) : Int) := by omega
  have hk3 : (k : Int) < (G : Int) + 1 := by omega
  have hk4 : k < G + 1 := by omega
  have := World.new_ne w _ hx
  go_enter Try.func42, Try.ntmps42
  go_wp2_with fail
  go_region_held3 (fun w' => w'.cell? ⟨bx, 2, none⟩ = some (.slice (some ⟨bh, 0, none⟩) (G + 1) (G + 1)) ∧ w'.cell? ⟨w.heap.size, 0, none⟩ = some (.slice A N C) ∧ w'.cell? ⟨w.heap.size, 1, none⟩ = some (.int .i64 dest) ∧ w'.cell? ⟨w.heap.size, 2, none⟩ = some (.int .i64 h0) ∧ w'.cell? ⟨w.heap.size, 3, none⟩ = some (.int .i64 h1))
    (first | go_keep | (exact keep5 ‹_› ‹_›)) ((go_at_call 45; refine (HS.out _ ((World.Since.refl _ _).alloc (Nat.le_refl _) _).drew).mono ?_; rintro e w2 ⟨rfl, hs⟩))
  go_wp2
  go_ret
  exact ⟨rfl, since_box hs⟩

set_option maxRecDepth 100000 in
set_option maxHeartbeats 2000000 in
theorem of_msg (A : Option Addr) (N C : Nat) (dest : Int) (bx bh G k : Nat) (w : World) (hG : G ≤ 65536) (hk : k ≤ G) (hx : w.cell? ⟨bx, 1, none⟩ = some (.slice (some ⟨bh, 0, none⟩) (G + 1) (G + 1)))
    (hS : ∀ W, w.Since w.heap.size W → Calls Try.prog 45 #[.agg #[.slice A N C, .int .i64 dest, .int .i64 0, .int .i64 0]] W fun e w' => e = .returned (.int .i64 k) ∧ W.Since W.heap.size w') :
    Calls Try.prog 42 #[.pointer (some ⟨bx, 0, none⟩), .agg #[.slice A N C, .int .i64 dest, .int .i64 0, .int .i64 0]] w fun e w' => e = .returned (.pointer (some ⟨bh, k, none⟩)) ∧ w.Since w.heap.size w' := by
  have hb : bx < w.heap.size := World.block_lt_of_cell? w _ hx
  have HS : Hid _ := hS
  clear hS
  have hk1 : (0 : Int) ≤ (k : Int) := by omega
  have hk2 : (k : Int) < ((G + 1 : Nat) : Int) := by omega
  have hk3 : (k : Int) < (G : Int) + 1 := by omega
  have hk4 : k < G + 1 := by omega
  have := World.new_ne w _ hx
  go_enter Try.func42, Try.ntmps42
  go_wp2_with fail
  go_region_held3 (fun w' => w'.cell? ⟨bx, 1, none⟩ = some (.slice (some ⟨bh, 0, none⟩) (G + 1) (G + 1)) ∧ w'.cell? ⟨w.heap.size, 0, none⟩ = some (.slice A N C) ∧ w'.cell? ⟨w.heap.size, 1, none⟩ = some (.int .i64 dest) ∧ w'.cell? ⟨w.heap.size, 2, none⟩ = some (.int .i64 0) ∧ w'.cell? ⟨w.heap.size, 3, none⟩ = some (.int .i64 0))
    (first | go_keep | (exact keep5 ‹_› ‹_›)) ((go_at_call 45; refine (HS.out _ ((World.Since.refl _ _).alloc (Nat.le_refl _) _).drew).mono ?_; rintro e w2 ⟨rfl, hs⟩))
  go_wp2
  go_ret
  exact ⟨rfl, since_box hs⟩

/-- ofSender, where there is a sender k among 0 .. G -/
theorem of_any (A : Option Addr) (C : Nat) (l : Lie) (bx bm bh G k : Nat) (w : World) (hn : l.n ≤ 1048576) (hp : PathR w A l) (hG : G ≤ 65536) (hk : k ≤ G) (hs : sndI l.n l.f l.h0 l.h1 = k)
    (hx1 : w.cell? ⟨bx, 1, none⟩ = some (.slice (some ⟨bm, 0, none⟩) (G + 1) (G + 1))) (hx2 : w.cell? ⟨bx, 2, none⟩ = some (.slice (some ⟨bh, 0, none⟩) (G + 1) (G + 1))) :
    Calls Try.prog 42 #[.pointer (some ⟨bx, 0, none⟩), .agg #[.slice A l.n C, .int .i64 l.dest, .int .i64 l.h0, .int .i64 l.h1]] w fun e w' =>
      e = .returned (.pointer (some ⟨if hopB l.h0 l.h1 then bh else bm, k, none⟩)) ∧ w.Since w.heap.size w' := by
  have hS : ∀ W, w.Since w.heap.size W → Calls Try.prog 45 #[.agg #[.slice A l.n C, .int .i64 l.dest, .int .i64 l.h0, .int .i64 l.h1]] W fun e w' => e = .returned (.int .i64 k) ∧ W.Since W.heap.size w' := fun W hW => by
    have := msend_any A C l W hn (hp.since hW (Nat.le_refl _)) (by omega)
    rw [hs] at this
    exact this
  cases hh : hopB l.h0 l.h1
  · obtain ⟨e0, e1⟩ := hop_none hh
    rw [e0, e1] at hS ⊢
    exact of_msg A l.n C l.dest bx bm G k w hG hk hx1 hS
  · rcases hop_cases hh with e0 | ⟨e0, e1⟩
    · exact of_hop1 A l.n C l.dest l.h0 l.h1 bx bh G k w e0 hG hk hx2 hS
    · exact of_hop2 A l.n C l.dest l.h0 l.h1 bx bh G k w e0 e1 hG hk hx2 hS
end Go.Proofs.Qxb6601175a.Idx
