/-
  IndexLies' last drawn region: '*own = append(*own, MessageLie{l.Message, &x.told[i]})', there being room. An invariant.
-/
import Derived.Test.Qxb6601175aState
import Derived.Deep.RegionLaw
set_option linter.unusedVariables false
namespace Go.Proofs.Qxb6601175a.Idx
open Go.RowKit

theorem run_ld69 {o : Oper} {ρ : Operand → Value} {x : Operand} {p : Addr} {a : Option Addr} {n c : Nat} (h : o.op = .load 69 x) (hx : ρ x = .pointer (some p)) {w : World} (hc : w.cell? p = some (.slice a n c)) : (execOp ρ o).run Try.prog w = .ok (.value (.slice a n c)) w := by
  unfold execOp; rw [h]; simp [hx, hc, go_sem]
theorem run_ld50 {o : Oper} {ρ : Operand → Value} {x : Operand} {p : Addr} {a : Option Addr} {n c : Nat} (h : o.op = .load 50 x) (hx : ρ x = .pointer (some p)) {w : World} (hc : w.cell? p = some (.slice a n c)) : (execOp ρ o).run Try.prog w = .ok (.value (.slice a n c)) w := by
  unfold execOp; rw [h]; simp [hx, hc, go_sem]
theorem run_ld41 {o : Oper} {ρ : Operand → Value} {x : Operand} {b : Nat} {a : Option Addr} {n c : Nat} {d h0 h1 : Int} (h : o.op = .load 41 x) (hx : ρ x = .pointer (some ⟨b, 0, none⟩)) {w : World}
    (c0 : w.cell? ⟨b, 0, none⟩ = some (.slice a n c)) (c1 : w.cell? ⟨b, 1, none⟩ = some (.int .i64 d)) (c2 : w.cell? ⟨b, 2, none⟩ = some (.int .i64 h0)) (c3 : w.cell? ⟨b, 3, none⟩ = some (.int .i64 h1)) :
    (execOp ρ o).run Try.prog w = .ok (.value (.agg #[.slice a n c, .int .i64 d, .int .i64 h0, .int .i64 h1])) w := by
  unfold execOp; rw [h]; simp [hx, c0, c1, c2, c3, go_sem]
theorem run_fa44 {o : Oper} {ρ : Operand → Value} {x : Operand} {b : Nat} (h : o.op = .fieldAddr 44 x 0) (hx : ρ x = .pointer (some ⟨b, 0, none⟩)) (w : World) : (execOp ρ o).run Try.prog w = .ok (.value (.pointer (some ⟨b, 0, none⟩))) w := by
  unfold execOp; rw [h]; simp [hx, go_sem]
theorem run_fa54 {o : Oper} {ρ : Operand → Value} {x : Operand} {b : Nat} (h : o.op = .fieldAddr 54 x 0) (hx : ρ x = .pointer (some ⟨b, 0, none⟩)) (w : World) : (execOp ρ o).run Try.prog w = .ok (.value (.pointer (some ⟨b, 0, none⟩))) w := by
  unfold execOp; rw [h]; simp [hx, go_sem]
theorem run_ix50 {o : Oper} {ρ : Operand → Value} {x y : Operand} {b n j : Nat} (h : o.op = .indexAddr 50 x y) (hx : ρ x = .slice (some ⟨b, 0, none⟩) n n) (hy : ρ y = .int .i64 (j : Int)) (hj : j < n) (hn : n ≤ 1048576) (w : World) : (execOp ρ o).run Try.prog w = .ok (.value (.pointer (some ⟨b, j * 5, none⟩))) w := by
  have h1 : (j : Int) < (n : Int) := by omega
  have h2 : (0 : Int) ≤ (j : Int) := by omega
  unfold execOp; rw [h]; simp [hx, hy, go_sem, h1, h2]
theorem run_bd68 {o : Oper} {ρ : Operand → Value} {x y : Operand} {a : Option Addr} {n c : Nat} {d h0 h1 : Int} {p : Addr} (h : o.op = .build 68 #[(0, x), (1, y)]) (hx : ρ x = .agg #[.slice a n c, .int .i64 d, .int .i64 h0, .int .i64 h1]) (hy : ρ y = .pointer (some p)) (w : World) :
    (execOp ρ o).run Try.prog w = .ok (.value (.agg #[.slice a n c, .int .i64 d, .int .i64 h0, .int .i64 h1, .pointer (some p)])) w := by
  unfold execOp; rw [h]; simp [hx, hy, go_sem]
theorem run_bs69 {o : Oper} {ρ : Operand → Value} {x : Operand} {a : Option Addr} {n c : Nat} {d h0 h1 : Int} {p : Addr} (h : o.op = .buildSlice 69 1 #[(0, x)]) (hx : ρ x = .agg #[.slice a n c, .int .i64 d, .int .i64 h0, .int .i64 h1, .pointer (some p)]) (w : World) :
    (execOp ρ o).run Try.prog w = .ok (.value (.slice (some ⟨w.heap.size, 0, none⟩) 1 1)) (w.alloc (.cells #[.slice a n c, .int .i64 d, .int .i64 h0, .int .i64 h1, .pointer (some p)] 68)) := by
  unfold execOp; rw [h]; simp [hx, go_sem]
theorem run_st69 {o : Oper} {ρ : Operand → Value} {x y : Operand} {p : Addr} {a : Option Addr} {n c : Nat} {u : Value} {w : World} (h : o.op = .store 69 x y) (hx : ρ x = .pointer (some p)) (hy : ρ y = .slice a n c) (hc : w.cell? p = some u) (hf : w.frozen? p = false) :
    (execOp ρ o).run Try.prog w = .ok .skip (w.setCell p (.slice a n c)) := by
  unfold execOp; rw [h]; simp [hx, hy, hc, hf, go_sem]

/-- what the statement speaks of -/
structure Env where
  p : Addr
  bL : Nat
  of : Nat
  cc : Nat
  cp : Nat
  bb : Nat
  bx : Nat
  bt : Nat
  n : Nat
  j : Nat
  A : Option Addr
  N : Nat
  C : Nat
  d : Int
  h0 : Int
  h1 : Int
  H : Nat

/-- the five cells that are appended -/
def Env.news (e : Env) : List Value := [.slice e.A e.N e.C, .int .i64 e.d, .int .i64 e.h0, .int .i64 e.h1, .pointer (some ⟨e.bt, e.j * 5, none⟩)]
def Env.obj (e : Env) : Obj := .cells #[.slice e.A e.N e.C, .int .i64 e.d, .int .i64 e.h0, .int .i64 e.h1, .pointer (some ⟨e.bt, e.j * 5, none⟩)] 68

/-- what each operation yields -/
def F38 (e : Env) : Nat → Value → World → Prop
  | 0, v, _ => v = .pointer (some e.p)
  | 1, v, _ => v = .pointer (some e.p)
  | 2, v, _ => v = .pointer (some e.p)
  | 3, v, _ => v = .slice (some ⟨e.bL, e.of, none⟩) e.cc e.cp
  | 4, v, _ => v = .pointer (some ⟨e.bb, 0, none⟩)
  | 5, v, _ => v = .agg #[.slice e.A e.N e.C, .int .i64 e.d, .int .i64 e.h0, .int .i64 e.h1]
  | 6, v, _ => v = .pointer (some ⟨e.bx, 0, none⟩)
  | 7, v, _ => v = .slice (some ⟨e.bt, 0, none⟩) e.n e.n
  | 8, v, _ => v = .int .i64 (e.j : Int)
  | 9, v, _ => v = .pointer (some ⟨e.bt, e.j * 5, none⟩)
  | 10, v, _ => v = .agg #[.slice e.A e.N e.C, .int .i64 e.d, .int .i64 e.h0, .int .i64 e.h1, .pointer (some ⟨e.bt, e.j * 5, none⟩)]
  | 11, v, _ => v = .slice (some ⟨e.H, 0, none⟩) 1 1
  | 12, v, _ => v = .slice (some ⟨e.bL, e.of, none⟩) (e.cc + 1) e.cp
  | 13, v, _ => v = .pointer (some e.p)
  | _, _, _ => True

theorem F38_stays {e : Env} {w w' : World} {x : Value} : ∀ j, F38 e j x w → F38 e j x w'
  | 0, h => h
  | 1, h => h
  | 2, h => h
  | 3, h => h
  | 4, h => h
  | 5, h => h
  | 6, h => h
  | 7, h => h
  | 8, h => h
  | 9, h => h
  | 10, h => h
  | 11, h => h
  | 12, h => h
  | 13, h => h
  | _ + 14, h => h

def Fr38 (a0 a : Act) : Prop := a.tmps.size = 177 ∧ a.defers = [] ∧ ∀ d : Nat, (d < 161 ∨ 174 < d) → a.eval (.tmp d) = a0.eval (.tmp d)

theorem Fr38.put {a0 a : Act} (h : Fr38 a0 a) {i : Nat} (hi : i < 14) (v : Value) : Fr38 a0 (a.put (some (161 + i)) v) := by
  obtain ⟨h1, h2, h3⟩ := h
  refine ⟨by rw [size_put]; exact h1, by rw [defers_put]; exact h2, fun d hd => ?_⟩
  rw [eval_put_ne (by omega), h3 d hd]

/-- the world: as it was; behind the new cell; behind the append -/
def W38 (e : Env) (Wd : World) (l11 l12 : Bool) : World :=
  if l12 then (Wd.alloc e.obj).setCells e.bL (e.of + e.cc * 5) e.news else if l11 then Wd.alloc e.obj else Wd

/-- what the statement leaves -/
def End38 (e : Env) (Wd : World) : World := ((Wd.alloc e.obj).setCells e.bL (e.of + e.cc * 5) e.news).setCell e.p (.slice (some ⟨e.bL, e.of, none⟩) (e.cc + 1) e.cp)

def J38 (e : Env) (a0 : Act) (Wd : World) (listed : Array Bool) (a : Act) (w : World) : Prop :=
  Fr38 a0 a ∧ ((listed.getD 14 false = false ∧ Facts (F38 e) (fun i => 161 + i) 14 listed a w ∧ w = W38 e Wd (listed.getD 11 false) (listed.getD 12 false) ∧ (listed.getD 12 false = true → listed.getD 11 false = true))
    ∨ ((∀ i, i < 15 → listed.getD i false = true) ∧ w = End38 e Wd))

theorem J38_pure {e : Env} {a0 : Act} {Wd : World} {listed : Array Bool} {a : Act} {w : World} {i : Nat} {o : Oper} {v : Value} {Q : Exit → Act → World → Prop}
    (hJ : J38 e a0 Wd listed a w) (hi : i < 14) (h11 : i ≠ 11) (h12 : i ≠ 12) (h0 : listed.getD i true = false) (hd : o.dst = some (161 + i))
    (hrun : Facts (F38 e) (fun i => 161 + i) 14 listed a w → (∃ l11 l12, w = W38 e Wd l11 l12) → (execOp a.eval o).run Try.prog w = .ok (.value v) w) (hF : F38 e i v w) :
    o.wp Try.prog a w (J38 e a0 Wd (listed.setIfInBounds i true)) Q := by
  obtain ⟨hfr, hb⟩ := hJ
  have h0' := getD_tf h0
  rcases hb with ⟨h14, hFa, hW, hcl⟩ | ⟨hall, _⟩
  · refine wp_value (hrun hFa ⟨_, _, hW⟩) ?_
    rw [hd]
    refine ⟨hfr.put hi v, .inl ⟨by rw [getD_set_ne false (by omega)]; exact h14, ?_, ?_, ?_⟩⟩
    · exact hFa.put i v (fun j hj hji => by omega) (by rw [hfr.1]; omega) h0 hF (fun j x => F38_stays j)
    · rw [getD_set_ne false h11, getD_set_ne false h12]; exact hW
    · rw [getD_set_ne false h11, getD_set_ne false h12]; exact hcl
  · rw [hall i (by omega)] at h0'
    simp at h0'

theorem J38_new {e : Env} {a0 : Act} {Wd : World} {listed : Array Bool} {a : Act} {w : World} {o : Oper} {Q : Exit → Act → World → Prop} (hH : Wd.heap.size = e.H)
    (hJ : J38 e a0 Wd listed a w) (h0 : listed.getD 11 true = false) (l10 : listed.getD 10 false = true) (hop : o.op = .buildSlice 69 1 #[(0, .tmp 171)]) (hd : o.dst = some 172) :
    o.wp Try.prog a w (J38 e a0 Wd (listed.setIfInBounds 11 true)) Q := by
  obtain ⟨hfr, hb⟩ := hJ
  have h0' := getD_tf h0
  have hlt : 11 < listed.size := by
    rcases Nat.lt_or_ge 11 listed.size with h' | h'
    · exact h'
    · simp [Array.getElem?_eq_none h'] at h0
  rcases hb with ⟨h14, hFa, hW, hcl⟩ | ⟨hall, _⟩
  · have l12 : listed.getD 12 false = false := by
      cases h : listed.getD 12 false
      · rfl
      · have := hcl h; rw [h0'] at this; simp at this
    rw [h0', l12] at hW
    have hW' : w = Wd := hW
    subst hW'
    refine wp_value (run_bs69 hop (hFa 10 (by omega) l10) w) ?_
    rw [hd]
    refine ⟨hfr.put (i := 11) (by omega) _, .inl ⟨by rw [getD_set_ne false (by omega)]; exact h14, ?_, ?_, fun _ => by simp [hlt]⟩⟩
    · refine hFa.put 11 _ (fun j hj hji => by omega) (by rw [hfr.1]; omega) h0 ?_ (fun j x => F38_stays j)
      show _ = _
      rw [hH]
    · have e12 : (listed.setIfInBounds 11 true).getD 12 false = false := by rw [getD_set_ne false (by omega)]; exact l12
      have e11 : (listed.setIfInBounds 11 true).getD 11 false = true := by simp [hlt]
      rw [e12, e11]
      rfl
  · rw [hall 11 (by omega)] at h0'
    simp at h0'

theorem J38_app {e : Env} {a0 : Act} {Wd : World} {listed : Array Bool} {a : Act} {w : World} {o : Oper} {Q : Exit → Act → World → Prop} (hH : Wd.heap.size = e.H) (hinfo : (Try.prog.info? 68).map (·.size) = some 5)
    (hroom : e.cc + 1 ≤ e.cp) (hsp : ∀ j, j < 5 → ((Wd.alloc e.obj).cell? ⟨e.bL, e.of + e.cc * 5 + j, none⟩).isSome = true ∧ (Wd.alloc e.obj).frozen? ⟨e.bL, e.of + e.cc * 5 + j, none⟩ = false)
    (hJ : J38 e a0 Wd listed a w) (h0 : listed.getD 12 true = false) (l3 : listed.getD 3 false = true) (l11 : listed.getD 11 false = true)
    (hop : o.op = .call { callee := .builtin .append, args := #[.tmp 164, .tmp 172], argTypes := #[69, 69] }) (hd : o.dst = some 173) :
    o.wp Try.prog a w (J38 e a0 Wd (listed.setIfInBounds 12 true)) Q := by
  obtain ⟨i, hi, hs5⟩ := Option.map_eq_some_iff.1 hinfo
  obtain ⟨hfr, hb⟩ := hJ
  have h0' := getD_tf h0
  have hlt : 12 < listed.size := by
    rcases Nat.lt_or_ge 12 listed.size with h' | h'
    · exact h'
    · simp [Array.getElem?_eq_none h'] at h0
  rcases hb with ⟨h14, hFa, hW, hcl⟩ | ⟨hall, _⟩
  · rw [h0', l11] at hW
    have hW' : w = Wd.alloc e.obj := hW
    subst hW'
    have f3 : a.eval (.tmp 164) = .slice (some ⟨e.bL, e.of, none⟩) e.cc e.cp := hFa 3 (by omega) l3
    have f11 : a.eval (.tmp 172) = .slice (some ⟨e.H, 0, none⟩) 1 1 := hFa 11 (by omega) l11
    have hap := run_append_room_cells (P := Try.prog) (Wd.alloc e.obj) 69 o.type 68 i Try.underlying69 hi e.bL e.of e.cc e.cp ⟨e.H, 0, none⟩ 1 1 e.news (by rw [hs5]; rfl) ?_ ?_ hroom ?_ ?_
    · have hrun : (execOp a.eval o).run Try.prog (Wd.alloc e.obj) = .ok (.value (.slice (some ⟨e.bL, e.of, none⟩) (e.cc + 1) e.cp)) ((Wd.alloc e.obj).setCells e.bL (e.of + e.cc * 5) e.news) := by
        rw [hs5] at hap
        unfold execOp; rw [hop]; simp [resolve, invoke, builtin, f3, f11, hap, Result.andThen]
      refine wp_value hrun ?_
      rw [hd]
      refine ⟨hfr.put (i := 12) (by omega) _, .inl ⟨by rw [getD_set_ne false (by omega)]; exact h14, ?_, ?_, fun _ => by rw [getD_set_ne false (by omega)]; exact l11⟩⟩
      · exact hFa.put 12 _ (fun j hj hji => by omega) (by rw [hfr.1]; omega) h0 rfl (fun j x => F38_stays j)
      · simp [W38, hlt]
    · intro k u hk
      have hk' : k = 0 ∨ k = 1 ∨ k = 2 ∨ k = 3 ∨ k = 4 := by
        have := (List.getElem?_eq_some_iff.1 hk).1
        simp [Env.news] at this
        omega
      unfold Env.obj
      rcases hk' with rfl | rfl | rfl | rfl | rfl <;> simp [Env.news] at hk <;> subst hk <;> (simp only [Addr.add]; rw [← hH]; simp [World.cell?_alloc_new])
    · intro u hu
      simp only [Env.news, List.mem_cons, List.not_mem_nil, or_false] at hu
      rcases hu with rfl | rfl | rfl | rfl | rfl <;> rfl
    · intro k hk
      rw [hs5]; exact (hsp k hk).1
    · intro k hk
      rw [hs5]; exact (hsp k hk).2
  · rw [hall 12 (by omega)] at h0'
    simp at h0'

theorem J38_store {e : Env} {a0 : Act} {Wd : World} {listed : Array Bool} {a : Act} {w : World} {o : Oper} {Q : Exit → Act → World → Prop} {u : Value}
    (hc : ((Wd.alloc e.obj).setCells e.bL (e.of + e.cc * 5) e.news).cell? e.p = some u) (hf : ((Wd.alloc e.obj).setCells e.bL (e.of + e.cc * 5) e.news).frozen? e.p = false)
    (hJ : J38 e a0 Wd listed a w) (h0 : listed.getD 14 true = false) (hall : ∀ i, i < 14 → listed.getD i false = true) (hop : o.op = .store 69 (.tmp 174) (.tmp 173)) (hd : o.dst = none) :
    o.wp Try.prog a w (J38 e a0 Wd (listed.setIfInBounds 14 true)) Q := by
  obtain ⟨hfr, hb⟩ := hJ
  have h0' := getD_tf h0
  have hlt : 14 < listed.size := by
    rcases Nat.lt_or_ge 14 listed.size with h' | h'
    · exact h'
    · simp [Array.getElem?_eq_none h'] at h0
  rcases hb with ⟨h14, hFa, hW, hcl⟩ | ⟨hal, _⟩
  · rw [hall 12 (by omega)] at hW
    have hW' : w = (Wd.alloc e.obj).setCells e.bL (e.of + e.cc * 5) e.news := hW
    subst hW'
    unfold Oper.wp
    rw [run_st69 hop (hFa 13 (by omega) (hall 13 (by omega))) (hFa 12 (by omega) (hall 12 (by omega))) hc hf]
    simp only [Oper.upon, hd, Act.put]
    refine ⟨hfr, .inr ⟨fun i hi => ?_, rfl⟩⟩
    by_cases e' : i = 14
    · subst e'; simp [hlt]
    · rw [getD_set_ne false (Ne.symm e')]; exact hall i (by omega)
  · rw [hal 14 (by decide)] at h0'
    simp at h0'

theorem J38_start (e : Env) {a0 : Act} {Wd : World} (h1 : a0.tmps.size = 177) (h2 : a0.defers = []) : J38 e a0 Wd (Array.replicate 15 false) a0 Wd := by
  have hl : ∀ i, (Array.replicate 15 false).getD i false = false := fun i => by
    rcases Nat.lt_or_ge i 15 with h | h
    · simp [h]
    · simp [h]
  refine ⟨⟨h1, h2, fun _ _ => rfl⟩, .inl ⟨hl 14, fun i _ h => ?_, ?_, fun h => ?_⟩⟩
  · rw [hl i] at h; simp at h
  · rw [hl 11, hl 12]; rfl
  · rw [hl 12] at h; simp at h

theorem J38_end {e : Env} {a0 : Act} {Wd : World} {listed : Array Bool} {a : Act} {w : World} (h : J38 e a0 Wd listed a w) (h14 : listed.getD 14 false = true) : Fr38 a0 a ∧ w = End38 e Wd := by
  obtain ⟨hf, hb⟩ := h
  rcases hb with ⟨h, _⟩ | ⟨_, h⟩
  · rw [h] at h14; simp at h14
  · exact ⟨hf, h⟩

/-- the frame at the region's end, slot by slot -/
theorem fr38_eq {a0 a : Act} (h : Fr38 a0 a) : a = { tmps := ((List.range 177).map (fun i => if i = 18 ∨ i = 19 ∨ i = 20 ∨ (150 ≤ i ∧ i ≤ 175) then a.eval (.tmp i) else a0.eval (.tmp i))).toArray, defers := [] } := by
  obtain ⟨h1, h2, h3⟩ := h
  refine act_ext h2 (by rw [h1]; simp) fun i hi => ?_
  have hi' : i < 177 := by simpa using hi
  rw [Array.getD_eq_getD_getElem?, List.getElem?_toArray, List.getElem?_map, List.getElem?_range hi']
  simp only [Option.map_some, Option.getD_some]
  by_cases c : i = 18 ∨ i = 19 ∨ i = 20 ∨ (150 ≤ i ∧ i ≤ 175)
  · rw [if_pos c]
  · rw [if_neg c]; exact h3 i (by omega)

/-- a cell of another block than the windows' is as it was all the while -/
theorem W38_cell {e : Env} {Wd : World} {a : Addr} {v : Value} (h : Wd.cell? a = some v) (hne : a.block ≠ e.bL) (l11 l12 : Bool) : (W38 e Wd l11 l12).cell? a = some v := by
  have h1 : (Wd.alloc e.obj).cell? a = some v := (World.cell?_alloc_lt Wd _ _ (World.block_lt_of_cell? Wd a h)).trans h
  unfold W38
  split
  · rw [World.cell?_setCells_out e.bL _ _ _ _ (fun hb => absurd hb hne)]; exact h1
  · split
    · exact h1
    · exact h

section
variable {W0 w : World} {bx bt bm bh bo n G bL m : Nat} {T V Oth E : Nat → Value}
/-- an entry is written -/
theorem S1.fill5 (h : S1 W0 w bx bt bm bh bo n G T V Oth) (hr : w.rowIs bL 68 m E) (hb : W0.heap.size ≤ bL) (o : Nat) (g : Nat → Value) :
    S1 W0 (set5 w bL o g) bx bt bm bh bo n G T V Oth ∧ (set5 w bL o g).rowIs bL 68 m (fun j => if o ≤ j ∧ j < o + 5 then g (j - o) else E j) :=
  ⟨⟨set5_other h.x (row_ne h.x hr (by decide)), set5_other h.told (row_ne h.told hr (by decide)), set5_other h.msg (row_ne h.msg hr (by decide)), set5_other h.hop (row_ne h.hop hr (by decide)), set5_other h.oth (row_ne h.oth hr (by decide)),
    h.ne, h.nx, h.nt, h.nm, h.nh, h.no, set5_since h.since hb⟩, set5_row hr⟩
end

/-- the windows behind j entries -/
def V5 (key : Nat → Nat) (bL n j q : Nat) : Value := .slice (if cnt key q n = 0 then none else some ⟨bL, stj key n q * 5, none⟩) (cnt key q j) (cnt key q n)

theorem V5_set {key : Nat → Nat} {bL n j q : Nat} (h : key j = q) (hj : j < n) : (fun k => if k = q then Value.slice (some ⟨bL, stj key n q * 5, none⟩) (cnt key q j + 1) (cnt key q n) else V5 key bL n j k) = V5 key bL n (j + 1) := by
  have hlt := cnt_lt h hj
  funext k
  by_cases e : k = q
  · subst e
    rw [if_pos rfl]
    unfold V5
    rw [cnt_hit h, if_neg (by omega)]
  · rw [if_neg e]
    unfold V5
    rw [cnt_miss (by omega)]

theorem V5_same {key : Nat → Nat} {N bL n j : Nat} (h : ¬ key j < N) : ∀ q, q < N → V5 key bL n (j + 1) q = V5 key bL n j q := by
  intro q hq
  unfold V5
  rw [cnt_miss (by omega)]

/-- the entries behind j lies -/
def EntIs (key : Nat → Nat) (bt n : Nat) (A : Nat → Option Addr) (C : Nat → Nat) (L : Nat → Lie) (E : Nat → Value) (j : Nat) : Prop :=
  ∀ i, i < j → (L i).fr = 0 → ∀ c, c < 5 → E (pl key n i * 5 + c) = mlCell bt i (A i) (C i) (L i) c

theorem ent_step {key : Nat → Nat} {bt n : Nat} {A : Nat → Option Addr} {C : Nat → Nat} {L : Nat → Lie} {E : Nat → Value} {j : Nat} (h : EntIs key bt n A C L E j) (hj : j < n) {o : Nat} (ho : o = pl key n j * 5) :
    EntIs key bt n A C L (fun i => if o ≤ i ∧ i < o + 5 then mlCell bt j (A j) (C j) (L j) (i - o) else E i) (j + 1) := by
  subst ho
  intro i hi hf c hc
  by_cases e : i = j
  · subst e
    simp only
    rw [if_pos (by omega)]
    congr 1
    omega
  · have hne := pl_ne (key := key) (i := i) (j := j) (by omega) hj
    simp only
    rw [if_neg (by omega)]
    exact h i (by omega) hf c hc

def mkEnv (bm bh G q bL bb bx bt n j H : Nat) (key : Nat → Nat) (A : Option Addr) (C : Nat) (l : Lie) : Env :=
  { p := ⟨wB bm bh G q, wO G q, none⟩, bL := bL, of := stj key n q * 5, cc := cnt key q j, cp := cnt key q n, bb := bb, bx := bx, bt := bt, n := n, j := j, A := A, N := l.n, C := C, d := l.dest, h0 := l.h0, h1 := l.h1, H := H }

theorem wB_ne {w : World} {W0 : World} {bx bt bm bh bo n G bL m q : Nat} {T V Oth E : Nat → Value} (h : S1 W0 w bx bt bm bh bo n G T V Oth) (hr : w.rowIs bL 68 m E) : wB bm bh G q ≠ bL := by
  unfold wB
  split
  · exact row_ne h.msg hr (by decide)
  · exact row_ne h.hop hr (by decide)

/-- the rows behind the statement -/
theorem end38_state {W0 w2 : World} {bx bt bm bh bo n G bL bb m j q H : Nat} {T Oth E : Nat → Value} {A : Nat → Option Addr} {C : Nat → Nat} {L : Nat → Lie}
    (hS : S1 W0 w2 bx bt bm bh bo n G T (V5 (keyI L G) bL n j) Oth) (hE : w2.rowIs bL 68 m E) (hnew : W0.heap.size ≤ bL) (hq : keyI L G j = q) (hq2 : q < 2 * (G + 1)) (hj : j < n) (hI : EntIs (keyI L G) bt n A C L E j) :
    S1 W0 (End38 (mkEnv bm bh G q bL bb bx bt n j H (keyI L G) (A j) (C j) (L j)) w2.drew) bx bt bm bh bo n G T (V5 (keyI L G) bL n (j + 1)) Oth ∧ ∃ E', (End38 (mkEnv bm bh G q bL bb bx bt n j H (keyI L G) (A j) (C j) (L j)) w2.drew).rowIs bL 68 m E' ∧ EntIs (keyI L G) bt n A C L E' (j + 1) := by
  have hso : ∀ o, w2.Since w2.heap.size (w2.drew.alloc o) := fun o => (World.Since.refl _ _).drew.alloc (Nat.le_refl _) _
  have h1 := (hS.step (hso (mkEnv bm bh G q bL bb bx bt n j H (keyI L G) (A j) (C j) (L j)).obj)).fill5 (rowS hE (hso (mkEnv bm bh G q bL bb bx bt n j H (keyI L G) (A j) (C j) (L j)).obj)) hnew (stj (keyI L G) n q * 5 + cnt (keyI L G) q j * 5) (mlCell bt j (A j) (C j) (L j))
  have h2 := h1.1.setV q hq2 (.slice (some ⟨bL, stj (keyI L G) n q * 5, none⟩) (cnt (keyI L G) q j + 1) (cnt (keyI L G) q n))
  rw [V5_set hq hj] at h2
  refine ⟨h2, _, h1.2.setOther (Ne.symm (wB_ne h1.1 h1.2)) _, ?_⟩
  refine ent_step hI hj ?_
  unfold pl
  rw [hq]
  omega
end Go.Proofs.Qxb6601175a.Idx
