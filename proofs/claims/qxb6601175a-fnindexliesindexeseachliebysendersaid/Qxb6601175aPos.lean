/-
  The law's two lists of places, and what the windows hold there.
-/
import Derived.Test.Qxb6601175aKnow
set_option linter.unusedVariables false
namespace Go.Proofs.Qxb6601175a.Idx
open Go.ChangeShapes Go.WideShapes Go.ChangeAt Go.RowKit

/-- posM and posH behind k lies -/
structure Pos (wA wr : World) (G : Nat) (key : Nat → Nat) (k : Nat) : Prop where
  M : wr.rowIs wA.heap.size 3 (G + 1) (fun q => .int .i64 ((cnt key q k : Nat) : Int))
  H : wr.rowIs (wA.heap.size + 1) 3 (G + 1) (fun q => .int .i64 ((cnt key (G + 1 + q) k : Nat) : Int))
  since : wA.Since wA.heap.size wr

section
variable {wA wr w' : World} {G : Nat} {key : Nat → Nat} {k : Nat}

theorem pos_start (wA : World) (G : Nat) (key : Nat → Nat) : Pos wA ((wA.alloc (.cells (madeCells #[.int .i64 0] (G + 1)) 3)).alloc (.cells (madeCells #[.int .i64 0] (G + 1)) 3)) G key 0 := by
  have hsz : (wA.alloc (.cells (madeCells #[.int .i64 0] (G + 1)) 3)).heap.size = wA.heap.size + 1 := by simp
  have h2 := World.rowIs_made (wA.alloc (.cells (madeCells #[.int .i64 0] (G + 1)) 3)) (.int .i64 0) (G + 1) 3
  rw [hsz] at h2
  exact ⟨(World.rowIs_made wA (.int .i64 0) (G + 1) 3).alloc _, h2, ((World.Since.refl _ _).alloc (Nat.le_refl _) _).alloc (by simp) _⟩

theorem Pos.step (h : Pos wA wr G key k) (hs : wr.Since wr.heap.size w') : Pos wA w' G key k :=
  ⟨rowS h.M hs, rowS h.H hs, sinceT h.since hs h.since.size⟩

theorem Pos.skip (h : Pos wA wr G key k) (hk : ¬ key k < 2 * (G + 1)) : Pos wA wr G key (k + 1) :=
  ⟨h.M.congr fun i hi => by rw [cnt_miss (by omega)], h.H.congr fun i hi => by rw [cnt_miss (by omega)], h.since⟩

theorem Pos.hop (h : Pos wA wr G key k) {sn : Nat} (hk : key k = G + 1 + sn) : Pos wA (wr.setCell ⟨wA.heap.size + 1, sn, none⟩ (.int .i64 (((cnt key (G + 1 + sn) k : Nat) : Int) + 1))) G key (k + 1) := by
  refine ⟨(h.M.setOther (Nat.ne_of_lt (Nat.lt_succ_self _)) _).congr fun i hi => by rw [cnt_miss (by omega)], (h.H.set sn _).congr fun i hi => ?_, h.since.setCell (by simp) _⟩
  by_cases e : i = sn
  · subst e
    rw [if_pos rfl, cnt_hit hk]
    simp
  · rw [if_neg e, cnt_miss (by omega)]

theorem Pos.msg (h : Pos wA wr G key k) {sn : Nat} (hk : key k = sn) (hG : sn ≤ G) : Pos wA (wr.setCell ⟨wA.heap.size, sn, none⟩ (.int .i64 (((cnt key sn k : Nat) : Int) + 1))) G key (k + 1) := by
  refine ⟨(h.M.set sn _).congr fun i hi => ?_, (h.H.setOther (Nat.succ_ne_self _) _).congr fun i hi => by rw [cnt_miss (by omega)], h.since.setCell (Nat.le_refl _) _⟩
  by_cases e : i = sn
  · subst e
    rw [if_pos rfl, cnt_hit hk]
    simp
  · rw [if_neg e, cnt_miss (by omega)]
end

section
variable {W : World} {be bb pb sn bl bL o : Nat} {v0 v1 v2 v3 v4 : Value}

/-- five cells of a box are written: what lies elsewhere -/
theorem far5 {a : Addr} {v : Value} (ha : a.block ≠ be) (h : W.cell? a = some v) : (((((W.setCell ⟨be, 0, none⟩ v0).setCell ⟨be, 1, none⟩ v1).setCell ⟨be, 2, none⟩ v2).setCell ⟨be, 3, none⟩ v3).setCell ⟨be, 4, none⟩ v4).cell? a = some v := by
  rw [World.cell?_setCell_other _ _ _ _ (by intro e; subst e; exact ha rfl), World.cell?_setCell_other _ _ _ _ (by intro e; subst e; exact ha rfl), World.cell?_setCell_other _ _ _ _ (by intro e; subst e; exact ha rfl), World.cell?_setCell_other _ _ _ _ (by intro e; subst e; exact ha rfl), World.cell?_setCell_other _ _ _ _ (by intro e; subst e; exact ha rfl)]
  exact h

theorem keepW {x0 x1 x2 x3 x4 x5 x6 : Value} (h1 : bb ≠ be) (h2 : pb ≠ be) (h3 : bL ≠ be)
    (h : W.cell? ⟨bb, sn, none⟩ = some x0 ∧ W.cell? ⟨pb, sn, none⟩ = some x1 ∧ W.cell? ⟨bL, o, none⟩ = some x2 ∧ W.cell? ⟨bL, o + 1, none⟩ = some x3 ∧ W.cell? ⟨bL, o + 2, none⟩ = some x4 ∧ W.cell? ⟨bL, o + 3, none⟩ = some x5 ∧ W.cell? ⟨bL, o + 4, none⟩ = some x6) :
    (((((W.setCell ⟨be, 0, none⟩ v0).setCell ⟨be, 1, none⟩ v1).setCell ⟨be, 2, none⟩ v2).setCell ⟨be, 3, none⟩ v3).setCell ⟨be, 4, none⟩ v4).cell? ⟨bb, sn, none⟩ = some x0
    ∧ (((((W.setCell ⟨be, 0, none⟩ v0).setCell ⟨be, 1, none⟩ v1).setCell ⟨be, 2, none⟩ v2).setCell ⟨be, 3, none⟩ v3).setCell ⟨be, 4, none⟩ v4).cell? ⟨pb, sn, none⟩ = some x1
    ∧ (((((W.setCell ⟨be, 0, none⟩ v0).setCell ⟨be, 1, none⟩ v1).setCell ⟨be, 2, none⟩ v2).setCell ⟨be, 3, none⟩ v3).setCell ⟨be, 4, none⟩ v4).cell? ⟨bL, o, none⟩ = some x2
    ∧ (((((W.setCell ⟨be, 0, none⟩ v0).setCell ⟨be, 1, none⟩ v1).setCell ⟨be, 2, none⟩ v2).setCell ⟨be, 3, none⟩ v3).setCell ⟨be, 4, none⟩ v4).cell? ⟨bL, o + 1, none⟩ = some x3
    ∧ (((((W.setCell ⟨be, 0, none⟩ v0).setCell ⟨be, 1, none⟩ v1).setCell ⟨be, 2, none⟩ v2).setCell ⟨be, 3, none⟩ v3).setCell ⟨be, 4, none⟩ v4).cell? ⟨bL, o + 2, none⟩ = some x4
    ∧ (((((W.setCell ⟨be, 0, none⟩ v0).setCell ⟨be, 1, none⟩ v1).setCell ⟨be, 2, none⟩ v2).setCell ⟨be, 3, none⟩ v3).setCell ⟨be, 4, none⟩ v4).cell? ⟨bL, o + 3, none⟩ = some x5
    ∧ (((((W.setCell ⟨be, 0, none⟩ v0).setCell ⟨be, 1, none⟩ v1).setCell ⟨be, 2, none⟩ v2).setCell ⟨be, 3, none⟩ v3).setCell ⟨be, 4, none⟩ v4).cell? ⟨bL, o + 4, none⟩ = some x6 :=
  ⟨far5 h1 h.1, far5 h2 h.2.1, far5 h3 h.2.2.1, far5 h3 h.2.2.2.1, far5 h3 h.2.2.2.2.1, far5 h3 h.2.2.2.2.2.1, far5 h3 h.2.2.2.2.2.2⟩

/-- the box holds the five; the other box is as it was -/
theorem rel7 {z : Nat → Value} {y0 y1 y2 y3 x : Value} (hz : W.rowIs be 68 5 z) (f0 : W.cell? ⟨bl, 0, none⟩ = some y0) (f1 : W.cell? ⟨bl, 1, none⟩ = some y1) (f2 : W.cell? ⟨bl, 2, none⟩ = some y2) (f3 : W.cell? ⟨bl, 3, none⟩ = some y3) (h1 : be ≠ pb) (h2 : bl ≠ be) (h3 : bl ≠ pb)
    {W' : World} (hW : W' = (((((W.setCell ⟨be, 0, none⟩ v0).setCell ⟨be, 1, none⟩ v1).setCell ⟨be, 2, none⟩ v2).setCell ⟨be, 3, none⟩ v3).setCell ⟨be, 4, none⟩ v4).setCell ⟨pb, sn, none⟩ x) :
    W'.cell? ⟨be, 0, none⟩ = some v0 ∧ W'.cell? ⟨be, 1, none⟩ = some v1 ∧ W'.cell? ⟨be, 2, none⟩ = some v2 ∧ W'.cell? ⟨be, 3, none⟩ = some v3 ∧ W'.cell? ⟨be, 4, none⟩ = some v4
    ∧ W'.cell? ⟨bl, 0, none⟩ = some y0 ∧ W'.cell? ⟨bl, 1, none⟩ = some y1 ∧ W'.cell? ⟨bl, 2, none⟩ = some y2 ∧ W'.cell? ⟨bl, 3, none⟩ = some y3 := by
  have hr := (((((hz.set 0 v0).set 1 v1).set 2 v2).set 3 v3).set 4 v4).setOther (a := ⟨pb, sn, none⟩) h1 x
  rw [← hW] at hr
  have hfar : ∀ (i : Nat) (v : Value), W.cell? ⟨bl, i, none⟩ = some v → W'.cell? ⟨bl, i, none⟩ = some v := fun i v h => by
    rw [hW, World.cell?_setCell_other _ _ _ _ (by intro e; injection e with e1; exact h3 (by omega))]
    exact far5 h2 h
  exact ⟨hr.cell (by omega), hr.cell (by omega), hr.cell (by omega), hr.cell (by omega), hr.cell (by omega), hfar _ _ f0, hfar _ _ f1, hfar _ _ f2, hfar _ _ f3⟩

theorem since5 {w0 : World} {B : Nat} (h : w0.Since B W) (hb : B ≤ be) : w0.Since B (((((W.setCell ⟨be, 0, none⟩ v0).setCell ⟨be, 1, none⟩ v1).setCell ⟨be, 2, none⟩ v2).setCell ⟨be, 3, none⟩ v3).setCell ⟨be, 4, none⟩ v4) :=
  ((((h.setCell hb _).setCell hb _).setCell hb _).setCell hb _).setCell hb _

theorem keepU {w2 wc : World} {a b c d e f g h i : Addr} {va vb vc vd ve vf vg vh vi : Value} (hs : W.Since W.heap.size w2)
    (k : wc.Since wc.heap.size W ∧ W.cell? a = some va ∧ W.cell? b = some vb ∧ W.cell? c = some vc ∧ W.cell? d = some vd ∧ W.cell? e = some ve ∧ W.cell? f = some vf ∧ W.cell? g = some vg ∧ W.cell? h = some vh ∧ W.cell? i = some vi) :
    wc.Since wc.heap.size w2 ∧ w2.cell? a = some va ∧ w2.cell? b = some vb ∧ w2.cell? c = some vc ∧ w2.cell? d = some vd ∧ w2.cell? e = some ve ∧ w2.cell? f = some vf ∧ w2.cell? g = some vg ∧ w2.cell? h = some vh ∧ w2.cell? i = some vi :=
  ⟨sinceT k.1 hs k.1.size, cellS hs k.2.1, cellS hs k.2.2.1, cellS hs k.2.2.2.1, cellS hs k.2.2.2.2.1, cellS hs k.2.2.2.2.2.1, cellS hs k.2.2.2.2.2.2.1, cellS hs k.2.2.2.2.2.2.2.1, cellS hs k.2.2.2.2.2.2.2.2.1, cellS hs k.2.2.2.2.2.2.2.2.2⟩
end

theorem new_row (w : World) (a : Array Value) (t : Nat) : ∃ g, (w.alloc (.cells a t)).rowIs w.heap.size t a.size g := by
  refine ⟨fun i => a.getD i undef, World.rowIs_alloc w a t _ fun i hi => ?_⟩
  have hi' : i < a.size := hi
  simp [hi']

theorem cnt_le (key : Nat → Nat) (q : Nat) : ∀ j, cnt key q j ≤ j := by
  intro j
  induction j with
  | zero => exact Nat.le_refl _
  | succ j ih => simp only [cnt]; split <;> omega

section
variable {W : World} {B n G : Nat} {lA : Option Addr} {lc : Nat} {A : Nat → Option Addr} {C : Nat → Nat} {L : Nat → Lie} {O : Option Addr} {no : Nat} {s : Nat → ByteArray} {bx bt bm bh bo bL : Nat} {T V : Nat → Value}

/-- lie k's window and its entry there -/
theorem Kn.entry (h : Kn W B n G lA lc A C L O no s bx bt bm bh bo bL T V) (hv : Valid L n G) {k : Nat} (hk : k < n) (hf : (L k).fr = 0) :
    ∃ s0 cn : Nat, cnt (keyI L G) (keyI L G k) k < cn ∧ cn ≤ n ∧ V (keyI L G k) = .slice (some ⟨bL, s0, none⟩) cn cn
      ∧ W.cell? ⟨bL, s0 + cnt (keyI L G) (keyI L G k) k * 5, none⟩ = some (.slice (A k) (L k).n (C k))
      ∧ W.cell? ⟨bL, s0 + cnt (keyI L G) (keyI L G k) k * 5 + 1, none⟩ = some (.int .i64 (L k).dest)
      ∧ W.cell? ⟨bL, s0 + cnt (keyI L G) (keyI L G k) k * 5 + 2, none⟩ = some (.int .i64 (L k).h0)
      ∧ W.cell? ⟨bL, s0 + cnt (keyI L G) (keyI L G k) k * 5 + 3, none⟩ = some (.int .i64 (L k).h1)
      ∧ W.cell? ⟨bL, s0 + cnt (keyI L G) (keyI L G k) k * 5 + 4, none⟩ = some (.pointer (some ⟨bt, k * 5, none⟩)) := by
  have hlt := cnt_lt (key := keyI L G) (q := keyI L G k) rfl hk
  have he := h.ent k hk hf
  have hp : pl (keyI L G) n k * 5 = stj (keyI L G) n (keyI L G k) * 5 + cnt (keyI L G) (keyI L G k) k * 5 := by unfold pl; omega
  rw [hp] at he
  refine ⟨stj (keyI L G) n (keyI L G k) * 5, cnt (keyI L G) (keyI L G k) n, hlt, cnt_le _ _ _, ?_, he 0 (by omega), he 1 (by omega), he 2 (by omega), he 3 (by omega), he 4 (by omega)⟩
  rw [h.win _ (keyI_one hv hk hf)]
  unfold winV
  rw [if_neg (by omega)]

/-- where lie k's window's slice lies -/
theorem key_hop {k : Nat} (hf : (L k).fr = 0) (hh : hopB (L k).h0 (L k).h1 = true) : keyI L G k = G + 1 + sndN (L k) := by
  unfold keyI; rw [if_pos hf, if_pos hh]
theorem key_msg {k : Nat} (hf : (L k).fr = 0) (hh : hopB (L k).h0 (L k).h1 = false) : keyI L G k = sndN (L k) := by
  unfold keyI; rw [if_pos hf, if_neg (by rw [hh]; decide)]
theorem snd_nat (hv : Valid L n G) {k : Nat} (hk : k < n) (hf : (L k).fr = 0) : sndI (L k).n (L k).f (L k).h0 (L k).h1 = (sndN (L k) : Nat) ∧ sndN (L k) ≤ G := by
  have := hv.sd k hk hf
  unfold sndN
  constructor <;> omega

/-- how long the windows are -/
theorem Kn.len (h : Kn W B n G lA lc A C L O no s bx bt bm bh bo bL T V) {q : Nat} (hq : q < 2 * (G + 1)) : ∃ a c, V q = .slice a (cnt (keyI L G) q n) c := by
  rw [h.win q hq]
  unfold winV
  by_cases e : cnt (keyI L G) q n = 0
  · rw [if_pos e, e]; exact ⟨_, _, rfl⟩
  · rw [if_neg e]; exact ⟨_, _, rfl⟩
end
end Go.Proofs.Qxb6601175a.Idx
