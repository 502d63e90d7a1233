/-
  IndexLies' first region: four 'make's and a new variable, in whatever order. An invariant.
-/
import Derived.Test.Qxb6601175aOrders
import Derived.Deep.Cut
namespace Go.Proofs.Qxb6601175a.Idx
open Go.RowKit

theorem info59 : (Try.prog.info? 59).map (fun i => (i.zero, i.size, i.bytes)) = some (some (.agg #[.int .i64 0, .bool false, .int .i64 0, .int .i64 0, .int .u64 0]), 5, 40) := by kernel_rfl
theorem info69 : (Try.prog.info? 69).map (fun i => (i.zero, i.size, i.bytes)) = some (some (.slice none 0 0), 1, 24) := by kernel_rfl
theorem info65 : (Try.prog.info? 65).map (fun i => (i.zero, i.size, i.bytes)) = some (some (.pointer none), 1, 8) := by kernel_rfl

/-- a row outlives what is made behind it -/
theorem rowS {w w' : World} {b t n : Nat} {f : Nat → Value} (h : w.rowIs b t n f) (hs : w.Since w.heap.size w') : w'.rowIs b t n f := h.of_block (hs.block b h.lt)

/-- the four arrays of a LieIndex, new -/
structure Four (B n G : Nat) (w : World) (bt bm bh bo : Nat) : Prop where
  told : ∃ g, w.rowIs bt 59 (n * 5) g
  msg : w.rowIs bm 69 (G + 1) (fun _ => .slice none 0 0)
  hop : w.rowIs bh 69 (G + 1) (fun _ => .slice none 0 0)
  oth : w.rowIs bo 65 (G + 1) (fun _ => .pointer none)
  ne : bm ≠ bh
  new : B ≤ bt ∧ B ≤ bm ∧ B ≤ bh ∧ B ≤ bo

theorem Four.since {B n G : Nat} {w w' : World} {bt bm bh bo : Nat} (h : Four B n G w bt bm bh bo) (hs : w.Since w.heap.size w') : Four B n G w' bt bm bh bo := by
  obtain ⟨⟨g, h1⟩, h2, h3, h4, h5, h6⟩ := h
  exact ⟨⟨g, rowS h1 hs⟩, rowS h2 hs, rowS h3 hs, rowS h4 hs, h5, h6⟩

/-- two rows of two types are two blocks -/
theorem row_ne {w : World} {b b' t t' n n' : Nat} {f f' : Nat → Value} (h : w.rowIs b t n f) (h' : w.rowIs b' t' n' f') (ht : t ≠ t') : b ≠ b' := by
  intro e
  subst e
  obtain ⟨c, hc, _⟩ := h
  obtain ⟨c', hc', _⟩ := h'
  rw [hc] at hc'
  simp only [Option.some.injEq, Obj.cells.injEq] at hc'
  exact ht hc'.2.1

/-- the slot that each of the 26 operations writes -/
def dst1 (i : Nat) : Nat := if i < 25 then 21 + i else 5

/-- what it holds then -/
def F1 (bc bl n G B : Nat) : Nat → Value → World → Prop
  | 0, v, _ => v = .pointer (some ⟨bc, 0, none⟩)
  | 1, v, _ => v = .pointer (some ⟨bc, 0, none⟩)
  | 2, v, _ => v = .pointer (some ⟨bc, 10, none⟩)
  | 3, v, _ => v = .slice (some ⟨bl, 0, none⟩) n n
  | 4, v, _ => v = .int .i64 (n : Int)
  | 5, v, w => ∃ b g, v = .slice (some ⟨b, 0, none⟩) n n ∧ B ≤ b ∧ w.rowIs b 59 (n * 5) g
  | 6, v, _ => v = .pointer (some ⟨bc, 0, none⟩)
  | 7, v, _ => v = .pointer (some ⟨bc, 0, none⟩)
  | 8, v, _ => v = .pointer (some ⟨bc, 0, none⟩)
  | 9, v, _ => v = .int .i64 (G : Int)
  | 10, v, _ => v = .int .i64 ((G + 1 : Nat) : Int)
  | 11, v, w => ∃ b, v = .slice (some ⟨b, 0, none⟩) (G + 1) (G + 1) ∧ B ≤ b ∧ w.rowIs b 69 (G + 1) (fun _ => .slice none 0 0)
  | 12, v, _ => v = .pointer (some ⟨bc, 0, none⟩)
  | 13, v, _ => v = .pointer (some ⟨bc, 0, none⟩)
  | 14, v, _ => v = .pointer (some ⟨bc, 0, none⟩)
  | 15, v, _ => v = .int .i64 (G : Int)
  | 16, v, _ => v = .int .i64 ((G + 1 : Nat) : Int)
  | 17, v, w => ∃ b, v = .slice (some ⟨b, 0, none⟩) (G + 1) (G + 1) ∧ B ≤ b ∧ w.rowIs b 69 (G + 1) (fun _ => .slice none 0 0)
  | 18, v, _ => v = .pointer (some ⟨bc, 0, none⟩)
  | 19, v, _ => v = .pointer (some ⟨bc, 0, none⟩)
  | 20, v, _ => v = .pointer (some ⟨bc, 0, none⟩)
  | 21, v, _ => v = .int .i64 (G : Int)
  | 22, v, _ => v = .int .i64 ((G + 1 : Nat) : Int)
  | 23, v, w => ∃ b, v = .slice (some ⟨b, 0, none⟩) (G + 1) (G + 1) ∧ B ≤ b ∧ w.rowIs b 65 (G + 1) (fun _ => .pointer none)
  | 24, v, w => ∃ bt bm bh bo, v = .agg #[.slice (some ⟨bt, 0, none⟩) n n, .slice (some ⟨bm, 0, none⟩) (G + 1) (G + 1), .slice (some ⟨bh, 0, none⟩) (G + 1) (G + 1), .slice (some ⟨bo, 0, none⟩) (G + 1) (G + 1)] ∧ Four B n G w bt bm bh bo
  | 25, v, w => ∃ b, v = .pointer (some ⟨b, 0, none⟩) ∧ B ≤ b ∧ w.rowIs b 54 4 (fun _ => .slice none 0 0)
  | _, _, _ => True

theorem F1_stays {bc bl n G B : Nat} {w w' : World} {x : Value} (hs : w.Since w.heap.size w') : ∀ j, F1 bc bl n G B j x w → F1 bc bl n G B j x w'
  | 0, h => h
  | 1, h => h
  | 2, h => h
  | 3, h => h
  | 4, h => h
  | 5, ⟨b, g, h1, h2, h3⟩ => ⟨b, g, h1, h2, rowS h3 hs⟩
  | 6, h => h
  | 7, h => h
  | 8, h => h
  | 9, h => h
  | 10, h => h
  | 11, ⟨b, h1, h2, h3⟩ => ⟨b, h1, h2, rowS h3 hs⟩
  | 12, h => h
  | 13, h => h
  | 14, h => h
  | 15, h => h
  | 16, h => h
  | 17, ⟨b, h1, h2, h3⟩ => ⟨b, h1, h2, rowS h3 hs⟩
  | 18, h => h
  | 19, h => h
  | 20, h => h
  | 21, h => h
  | 22, h => h
  | 23, ⟨b, h1, h2, h3⟩ => ⟨b, h1, h2, rowS h3 hs⟩
  | 24, ⟨bt, bm, bh, bo, h1, h2⟩ => ⟨bt, bm, bh, bo, h1, h2.since hs⟩
  | 25, ⟨b, h1, h2, h3⟩ => ⟨b, h1, h2, rowS h3 hs⟩
  | _ + 26, h => h

/-- a frame of IndexLies, as it stood at the region but for the region's own slots -/
def Fr1 (a0 a : Act) : Prop := a.tmps.size = 177 ∧ a.defers = [] ∧ ∀ d : Nat, d ≠ 5 → (d < 21 ∨ 45 < d) → a.eval (.tmp d) = a0.eval (.tmp d)

theorem Fr1.put {a0 a : Act} (h : Fr1 a0 a) {i : Nat} (hi : i < 26) (v : Value) : Fr1 a0 (a.put (some (dst1 i)) v) := by
  obtain ⟨h1, h2, h3⟩ := h
  refine ⟨by rw [size_put]; exact h1, by rw [defers_put]; exact h2, fun d hd hd' => ?_⟩
  rw [eval_put_ne, h3 d hd hd']
  unfold dst1
  split <;> omega

/-- what the region leaves -/
def End1 (W0 : World) (n G : Nat) (v : Value) (w : World) : Prop :=
  ∃ bx bt bm bh bo, v = .pointer (some ⟨bx, 0, none⟩) ∧ Four W0.heap.size n G w bt bm bh bo ∧ W0.heap.size ≤ bx ∧ W0.Since W0.heap.size w
    ∧ w.rowIs bx 54 4 (fun i => if i = 0 then .slice (some ⟨bt, 0, none⟩) n n else if i = 1 then .slice (some ⟨bm, 0, none⟩) (G + 1) (G + 1) else if i = 2 then .slice (some ⟨bh, 0, none⟩) (G + 1) (G + 1) else .slice (some ⟨bo, 0, none⟩) (G + 1) (G + 1))

/-- the invariant -/
def J1 (a0 : Act) (W0 : World) (bc bl n G : Nat) (listed : Array Bool) (a : Act) (w : World) : Prop :=
  Fr1 a0 a ∧ ((listed.getD 26 false = false ∧ Facts (F1 bc bl n G W0.heap.size) dst1 26 listed a w ∧ W0.Since W0.heap.size w
      ∧ (listed.getD 11 false = true → listed.getD 17 false = true → ∀ b b' k k', a.eval (.tmp 32) = .slice (some ⟨b, 0, none⟩) k k → a.eval (.tmp 38) = .slice (some ⟨b', 0, none⟩) k' k' → b ≠ b'))
    ∨ ((∀ i, i < 27 → listed.getD i false = true) ∧ End1 W0 n G (a.eval (.tmp 5)) w))

theorem getD_tf {l : Array Bool} {i : Nat} (h : l.getD i true = false) : l.getD i false = false := by
  rcases Nat.lt_or_ge i l.size with h' | h'
  · simp [h'] at h ⊢; exact h
  · simp [Array.getElem?_eq_none h'] at h

theorem dst1_inj {i j : Nat} (hi : i < 26) (hj : j < 26) (h : j ≠ i) : dst1 j ≠ dst1 i := by
  unfold dst1
  split <;> split <;> omega
theorem dst1_lt {i : Nat} (hi : i < 26) : dst1 i < 177 := by unfold dst1; split <;> omega

/-- an operation that leaves the world, or makes a block, keeps the invariant -/
theorem J1_step {a0 : Act} {W0 : World} {bc bl n G : Nat} {listed : Array Bool} {a : Act} {w w' : World} {i : Nat} {o : Oper} {v : Value} {Q : Exit → Act → World → Prop}
    (hJ : J1 a0 W0 bc bl n G listed a w) (hi : i < 26) (h0 : listed.getD i true = false) (hd : o.dst = some (dst1 i))
    (hrun : Facts (F1 bc bl n G W0.heap.size) dst1 26 listed a w → W0.Since W0.heap.size w → (execOp a.eval o).run Try.prog w = .ok (.value v) w')
    (hs : W0.Since W0.heap.size w → w.Since w.heap.size w')
    (hF : Facts (F1 bc bl n G W0.heap.size) dst1 26 listed a w → W0.Since W0.heap.size w → F1 bc bl n G W0.heap.size i v w')
    (h11 : i = 11 → ∃ b k, v = .slice (some ⟨b, 0, none⟩) k k ∧ w.heap.size ≤ b) (h17 : i = 17 → ∃ b k, v = .slice (some ⟨b, 0, none⟩) k k ∧ w.heap.size ≤ b) :
    o.wp Try.prog a w (J1 a0 W0 bc bl n G (listed.setIfInBounds i true)) Q := by
  obtain ⟨hfr, hb⟩ := hJ
  have h0' := getD_tf h0
  rcases hb with ⟨h26, hFa, hS, hne⟩ | ⟨hall, _⟩
  · refine wp_value (hrun hFa hS) ?_
    rw [hd]
    have hw := hs hS
    have hsz : dst1 i < a.tmps.size := by rw [hfr.1]; exact dst1_lt hi
    have hFa' := hFa.put i v (fun j hj hji => dst1_inj hi hj hji) hsz h0 (hF hFa hS) (fun j x => F1_stays hw j)
    refine ⟨hfr.put hi v, .inl ⟨by rw [getD_set_ne false (by omega)]; exact h26, hFa', hS.trans ⟨hw.os, hw.tape, hw.output, hw.size, fun k hk => hw.block k (Nat.lt_of_lt_of_le hk hS.size)⟩, ?_⟩⟩
    intro l11 l17 b b' k k' e32 e38
    by_cases e11 : i = 11
    · subst e11
      obtain ⟨c, kc, hv, hc⟩ := h11 rfl
      have hds : dst1 11 = 32 := rfl
      rw [hds] at e32 e38 hsz
      rw [eval_put_same hsz, hv] at e32
      rw [eval_put_ne (by omega)] at e38
      rw [getD_set_ne false (by omega)] at l17
      have f17 : F1 bc bl n G W0.heap.size 17 (a.eval (.tmp 38)) w := hFa 17 (by omega) l17
      obtain ⟨b2, h1, _, h3⟩ := f17
      have := h3.lt
      rw [h1] at e38
      simp only [Value.slice.injEq, Option.some.injEq, Addr.mk.injEq] at e32 e38
      omega
    · by_cases e17 : i = 17
      · subst e17
        obtain ⟨c, kc, hv, hc⟩ := h17 rfl
        have hds : dst1 17 = 38 := rfl
        rw [hds] at e32 e38 hsz
        rw [eval_put_same hsz, hv] at e38
        rw [eval_put_ne (by omega)] at e32
        rw [getD_set_ne false (by omega)] at l11
        have f11 : F1 bc bl n G W0.heap.size 11 (a.eval (.tmp 32)) w := hFa 11 (by omega) l11
        obtain ⟨b2, h1, _, h3⟩ := f11
        have := h3.lt
        rw [h1] at e32
        simp only [Value.slice.injEq, Option.some.injEq, Addr.mk.injEq] at e32 e38
        omega
      · rw [getD_set_ne false e11] at l11
        rw [getD_set_ne false e17] at l17
        have d1 : dst1 i ≠ 32 := dst1_inj (j := i) (i := 11) (by omega) hi e11
        have d2 : dst1 i ≠ 38 := dst1_inj (j := i) (i := 17) (by omega) hi e17
        rw [eval_put_ne d1] at e32
        rw [eval_put_ne d2] at e38
        exact hne l11 l17 b b' k k' e32 e38
  · rw [hall i (by omega)] at h0'
    simp at h0'

theorem alloc54_row (w : World) : (w.alloc (.cells #[.slice none 0 0, .slice none 0 0, .slice none 0 0, .slice none 0 0] 54)).rowIs w.heap.size 54 4 (fun _ => .slice none 0 0) := by
  refine World.rowIs_alloc w #[.slice none 0 0, .slice none 0 0, .slice none 0 0, .slice none 0 0] 54 _ fun i hi => ?_
  have hi' : i = 0 ∨ i = 1 ∨ i = 2 ∨ i = 3 := by simp at hi; omega
  rcases hi' with rfl | rfl | rfl | rfl <;> rfl

/-- the invariant at the region's head -/
theorem J1_start {a0 : Act} {W0 : World} (bc bl n G : Nat) (h1 : a0.tmps.size = 177) (h2 : a0.defers = []) : J1 a0 W0 bc bl n G (Array.replicate 27 false) a0 { W0 with drawn := W0.drawn + 1 } := by
  have hl : ∀ i, (Array.replicate 27 false).getD i false = false := fun i => by
    rcases Nat.lt_or_ge i 27 with h | h
    · simp [h]
    · simp [h]
  refine ⟨⟨h1, h2, fun _ _ _ => rfl⟩, .inl ⟨hl 26, fun i _ h => ?_, ⟨rfl, rfl, rfl, Nat.le_refl _, fun _ _ => rfl⟩, fun h => ?_⟩⟩
  · rw [hl i] at h; simp at h
  · rw [hl 11] at h; simp at h

/-- the invariant at the region's end -/
theorem J1_end {a0 : Act} {W0 : World} {bc bl n G : Nat} {listed : Array Bool} {a : Act} {w : World} (h : J1 a0 W0 bc bl n G listed a w) (h26 : listed.getD 26 false = true) : Fr1 a0 a ∧ End1 W0 n G (a.eval (.tmp 5)) w := by
  obtain ⟨hf, hb⟩ := h
  rcases hb with ⟨h, _⟩ | ⟨_, h⟩
  · rw [h] at h26; simp at h26
  · exact ⟨hf, h⟩

theorem run_mv {P : Program} {o : Oper} {ρ : Operand → Value} {x : Operand} {v : Value} (h : o.op = .move x) (hx : ρ x = v) (w : World) : (execOp ρ o).run P w = .ok (.value v) w := by
  unfold execOp; rw [h]; simp [hx]
theorem run_nc {P : Program} {o : Oper} {ρ : Operand → Value} {x : Operand} {p : Addr} (h : o.op = .nilCheck x) (hx : ρ x = .pointer (some p)) (w : World) : (execOp ρ o).run P w = .ok (.value (.pointer (some p))) w := by
  unfold execOp; rw [h]; simp [hx, go_sem]
theorem run_fa10 {o : Oper} {ρ : Operand → Value} {x : Operand} {b : Nat} (h : o.op = .fieldAddr 49 x 10) (hx : ρ x = .pointer (some ⟨b, 0, none⟩)) (w : World) : (execOp ρ o).run Try.prog w = .ok (.value (.pointer (some ⟨b, 10, none⟩))) w := by
  unfold execOp; rw [h]; simp [hx, go_sem]
theorem run_fa0 {o : Oper} {ρ : Operand → Value} {x : Operand} {b : Nat} (h : o.op = .fieldAddr 49 x 0) (hx : ρ x = .pointer (some ⟨b, 0, none⟩)) (w : World) : (execOp ρ o).run Try.prog w = .ok (.value (.pointer (some ⟨b, 0, none⟩))) w := by
  unfold execOp; rw [h]; simp [hx, go_sem]
theorem run_ld38 {o : Oper} {ρ : Operand → Value} {x : Operand} {p : Addr} {a : Option Addr} {n c : Nat} (h : o.op = .load 38 x) (hx : ρ x = .pointer (some p)) {w : World} (hc : w.cell? p = some (.slice a n c)) : (execOp ρ o).run Try.prog w = .ok (.value (.slice a n c)) w := by
  unfold execOp; rw [h]; simp [hx, hc, go_sem]
theorem run_ld3 {o : Oper} {ρ : Operand → Value} {x : Operand} {p : Addr} {a : Int} (h : o.op = .load 3 x) (hx : ρ x = .pointer (some p)) {w : World} (hc : w.cell? p = some (.int .i64 a)) : (execOp ρ o).run Try.prog w = .ok (.value (.int .i64 a)) w := by
  unfold execOp; rw [h]; simp [hx, hc, go_sem]
theorem run_len {o : Oper} {ρ : Operand → Value} {x : Operand} {a : Option Addr} {n c : Nat} (h : o.op = .call { callee := .builtin .len, args := #[x], argTypes := #[38] }) (hx : ρ x = .slice a n c) (w : World) : (execOp ρ o).run Try.prog w = .ok (.value (.int .i64 n)) w := by
  unfold execOp; rw [h]; simp [hx, go_sem]
theorem run_inc {o : Oper} {ρ : Operand → Value} {x : Operand} {G : Nat} (h : o.op = .binOp .add 3 x (.const (.int .i64 1)) 3) (hx : ρ x = .int .i64 (G : Int)) (h1 : ρ (.const (.int .i64 1)) = .int .i64 1) (hG : G ≤ 65536) (w : World) : (execOp ρ o).run Try.prog w = .ok (.value (.int .i64 ((G + 1 : Nat) : Int))) w := by
  unfold execOp; rw [h]; simp [hx, h1, go_sem]
  rw [IntKind.wrap_i64]; omega
theorem run_bd {o : Oper} {ρ : Operand → Value} {x y z u : Operand} {a b c d : Option Addr} {n n' m m' k k' l l' : Nat} (h : o.op = .build 54 #[(0, x), (1, y), (2, z), (3, u)]) (hx : ρ x = .slice a n n') (hy : ρ y = .slice b m m') (hz : ρ z = .slice c k k') (hu : ρ u = .slice d l l') (w : World) : (execOp ρ o).run Try.prog w = .ok (.value (.agg #[.slice a n n', .slice b m m', .slice c k k', .slice d l l'])) w := by
  unfold execOp; rw [h]; simp [hx, hy, hz, hu, go_sem]
theorem run_al {o : Oper} {ρ : Operand → Value} (h : o.op = .alloc 54) (w : World) : (execOp ρ o).run Try.prog w = .ok (.value (.pointer (some ⟨w.heap.size, 0, none⟩))) (w.alloc (.cells #[.slice none 0 0, .slice none 0 0, .slice none 0 0, .slice none 0 0] 54)) := by
  unfold execOp; rw [h]; simp [go_sem]
theorem run_mk {o : Oper} {ρ : Operand → Value} {x : Operand} {t : TypeId} {l : Value} {v : Value} {w w' : World} (h : o.op = .makeSlice t x x) (hx : ρ x = l) (hm : (Instr.makeSlice t l l).run Try.prog w = .ok v w') : (execOp ρ o).run Try.prog w = .ok (.value v) w' := by
  unfold execOp; rw [h]; simp [hx, hm]
theorem run_st {o : Oper} {ρ : Operand → Value} {x y : Operand} {a b c d : Option Addr} {n n' m m' k k' l l' bx : Nat} {f : Nat → Value} {w : World} (h : o.op = .store 54 x y) (hx : ρ x = .pointer (some ⟨bx, 0, none⟩))
    (hy : ρ y = .agg #[.slice a n n', .slice b m m', .slice c k k', .slice d l l']) (hr : w.rowIs bx 54 4 f) :
    (execOp ρ o).run Try.prog w = .ok .skip ((((w.setCell ⟨bx, 0, none⟩ (.slice a n n')).setCell ⟨bx, 1, none⟩ (.slice b m m')).setCell ⟨bx, 2, none⟩ (.slice c k k')).setCell ⟨bx, 3, none⟩ (.slice d l l')) := by
  have c0 := hr.cell (i := 0) (by omega)
  have c1 := hr.cell (i := 1) (by omega)
  have c2 := hr.cell (i := 2) (by omega)
  have c3 := hr.cell (i := 3) (by omega)
  have hf := fun i => hr.frozen i
  unfold execOp; rw [h]; simp [hx, hy, c0, c1, c2, c3, hf, go_sem]

/-- the store, last of all -/
theorem J1_store {a0 : Act} {W0 : World} {bc bl n G : Nat} {listed : Array Bool} {a : Act} {w : World} {o : Oper} {Q : Exit → Act → World → Prop} (hJ : J1 a0 W0 bc bl n G listed a w)
    (h0 : listed.getD 26 true = false) (hop : o.op = .store 54 (.tmp 5) (.tmp 45)) (hd : o.dst = none) (hall : ∀ i, i < 26 → listed.getD i false = true) :
    o.wp Try.prog a w (J1 a0 W0 bc bl n G (listed.setIfInBounds 26 true)) Q := by
  obtain ⟨hfr, hb⟩ := hJ
  have h0' := getD_tf h0
  have hlt : 26 < listed.size := by
    rcases Nat.lt_or_ge 26 listed.size with h' | h'
    · exact h'
    · simp [Array.getElem?_eq_none h'] at h0
  rcases hb with ⟨_, hFa, hS, _⟩ | ⟨hal, _⟩
  · obtain ⟨bt, bm, bh, bo, v1, ⟨⟨g, t3⟩, m3, q3, r3, hne, hnew⟩⟩ := hFa 24 (by decide) (hall 24 (by decide))
    obtain ⟨bx, x1, x2, x3⟩ := hFa 25 (by decide) (hall 25 (by decide))
    unfold Oper.wp
    rw [run_st hop x1 v1 x3]
    simp only [Oper.upon, hd, Act.put]
    refine ⟨hfr, .inr ⟨fun i hi => ?_, bx, bt, bm, bh, bo, x1, ?_, x2, ?_, ?_⟩⟩
    · by_cases e : i = 26
      · subst e; simp [hlt]
      · rw [getD_set_ne false (Ne.symm e)]; exact hall i (by omega)
    · have e1 := row_ne t3 x3 (by decide)
      have e2 := row_ne m3 x3 (by decide)
      have e3 := row_ne q3 x3 (by decide)
      have e4 := row_ne r3 x3 (by decide)
      exact ⟨⟨g, (((t3.setOther e1 _).setOther e1 _).setOther e1 _).setOther e1 _⟩, (((m3.setOther e2 _).setOther e2 _).setOther e2 _).setOther e2 _, (((q3.setOther e3 _).setOther e3 _).setOther e3 _).setOther e3 _, (((r3.setOther e4 _).setOther e4 _).setOther e4 _).setOther e4 _, hne, hnew⟩
    · exact (((hS.setCell x2 _).setCell x2 _).setCell x2 _).setCell x2 _
    · refine ((((x3.set _ _).set _ _).set _ _).set _ _).congr fun i hi => ?_
      have hi' : i = 0 ∨ i = 1 ∨ i = 2 ∨ i = 3 := by omega
      rcases hi' with rfl | rfl | rfl | rfl <;> rfl
  · rw [hal 26 (by decide)] at h0'
    simp at h0'


/-- the frame at the region's end, slot by slot -/
theorem fr1_eq {a0 a : Act} (h : Fr1 a0 a) : a = { tmps := ((List.range 177).map (fun i => if i = 5 ∨ 21 ≤ i then a.eval (.tmp i) else a0.eval (.tmp i))).toArray, defers := [] } := by
  obtain ⟨h1, h2, h3⟩ := h
  refine act_ext h2 (by rw [h1]; simp) fun i hi => ?_
  have hi' : i < 177 := by simpa using hi
  rw [Array.getD_eq_getD_getElem?, List.getElem?_toArray, List.getElem?_map, List.getElem?_range hi']
  simp only [Option.map_some, Option.getD_some]
  by_cases c : i = 5 ∨ 21 ≤ i
  · rw [if_pos c]
  · rw [if_neg c]; exact h3 i (by omega) (by omega)

theorem below26 {j : Nat} (h : j < 26) : j = 0 ∨ j = 1 ∨ j = 2 ∨ j = 3 ∨ j = 4 ∨ j = 5 ∨ j = 6 ∨ j = 7 ∨ j = 8 ∨ j = 9 ∨ j = 10 ∨ j = 11 ∨ j = 12 ∨ j = 13 ∨ j = 14 ∨ j = 15 ∨ j = 16 ∨ j = 17 ∨ j = 18 ∨ j = 19 ∨ j = 20 ∨ j = 21 ∨ j = 22 ∨ j = 23 ∨ j = 24 ∨ j = 25 := by omega
end Go.Proofs.Qxb6601175a.Idx
