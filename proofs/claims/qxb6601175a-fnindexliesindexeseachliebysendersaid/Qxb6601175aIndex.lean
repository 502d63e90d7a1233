/-
  (*Council).IndexLies: the walk.
-/
import Derived.Test.Qxb6601175aRegion38
import Derived.Deep.CutRange
import Derived.Deep.CutBlock
import Derived.Deep.LoopGhost
set_option linter.unusedVariables false
namespace Go.Proofs.Qxb6601175a.Idx
open Go.ChangeShapes Go.WideShapes Go.ChangeAt Go.RowKit
attribute [local go_sem] Go.wp_at_zero Go.wp_at_succ

/-- told behind j lies -/
def ToldIs (s : Nat → ByteArray) (no : Nat) (L : Nat → Lie) (T : Nat → Value) (j : Nat) : Prop := ∀ i, i < j → ∀ c, c < 5 → T (i * 5 + c) = toldCell s no (L i) c

theorem keep10 {W w2 : World} {a b c d e f g h i j : Addr} {va vb vc vd ve vf vg vh vi vj : Value} (hs : W.Since W.heap.size w2)
    (hc : W.cell? a = some va ∧ W.cell? b = some vb ∧ W.cell? c = some vc ∧ W.cell? d = some vd ∧ W.cell? e = some ve ∧ W.cell? f = some vf ∧ W.cell? g = some vg ∧ W.cell? h = some vh ∧ W.cell? i = some vi ∧ W.cell? j = some vj) :
    w2.cell? a = some va ∧ w2.cell? b = some vb ∧ w2.cell? c = some vc ∧ w2.cell? d = some vd ∧ w2.cell? e = some ve ∧ w2.cell? f = some vf ∧ w2.cell? g = some vg ∧ w2.cell? h = some vh ∧ w2.cell? i = some vi ∧ w2.cell? j = some vj :=
  ⟨cellS hs hc.1, cellS hs hc.2.1, cellS hs hc.2.2.1, cellS hs hc.2.2.2.1, cellS hs hc.2.2.2.2.1, cellS hs hc.2.2.2.2.2.1, cellS hs hc.2.2.2.2.2.2.1, cellS hs hc.2.2.2.2.2.2.2.1, cellS hs hc.2.2.2.2.2.2.2.2.1, cellS hs hc.2.2.2.2.2.2.2.2.2⟩

theorem set5_far {w : World} {b o : Nat} {g : Nat → Value} {a : Addr} (h : a.block ≠ b) : (set5 w b o g).cell? a = w.cell? a := by
  unfold set5
  rw [World.cell?_setCell_other _ _ _ _ (by intro e; subst e; exact h rfl), World.cell?_setCell_other _ _ _ _ (by intro e; subst e; exact h rfl), World.cell?_setCell_other _ _ _ _ (by intro e; subst e; exact h rfl), World.cell?_setCell_other _ _ _ _ (by intro e; subst e; exact h rfl), World.cell?_setCell_other _ _ _ _ (by intro e; subst e; exact h rfl)]

theorem told_step {s : Nat → ByteArray} {no : Nat} {L : Nat → Lie} {T : Nat → Value} {j : Nat} {l : Lie} (h : ToldIs s no L T j) (hl : L j = l) : ToldIs s no L (fun i => if j * 5 ≤ i ∧ i < j * 5 + 5 then toldCell s no l (i - j * 5) else T i) (j + 1) := by
  intro i hi c hc
  by_cases e : i = j
  · subst e
    simp only
    rw [if_pos (by omega), hl]
    congr 1
    omega
  · simp only
    rw [if_neg (by omega)]
    exact h i (by omega) c hc

theorem oth_same {L : Nat → Lie} {bt j : Nat} (h : (L j).fr = 0) : othV L bt (j + 1) = othV L bt j := by
  funext k
  unfold othV
  simp only [lastI]
  rw [if_neg (by rw [h]; simp)]
theorem oth_set {L : Nat → Lie} {bt j kf : Nat} (h : (L j).fr = kf) (h0 : kf ≠ 0) : (fun k => if k = kf then Value.pointer (some ⟨bt, j * 5, none⟩) else othV L bt j k) = othV L bt (j + 1) := by
  funext k
  unfold othV
  simp only [lastI, h]
  by_cases e : k = kf
  · subst e
    rw [if_pos rfl, if_pos (by omega)]
  · rw [if_neg e, if_neg (by omega)]

theorem info68 : (Try.prog.info? 68).map (fun i => (i.zero, i.size, i.bytes)) = some (some (.agg #[.slice none 0 0, .int .i64 0, .int .i64 0, .int .i64 0, .pointer none]), 5, 56) := by kernel_rfl

/-- the windows while they count: behind j lies -/
def V2 (key : Nat → Nat) (bL m j q : Nat) : Value := .slice (if cnt key q j = 0 then none else some ⟨bL, 0, none⟩) (cnt key q j) (if cnt key q j = 0 then 0 else m)
theorem V2_zero (key : Nat → Nat) (bL m : Nat) : V2 key bL m 0 = fun _ => .slice none 0 0 := rfl
theorem V2_set {key : Nat → Nat} {bL m j q : Nat} (h : key j = q) : (fun k => if k = q then Value.slice (some ⟨bL, 0, none⟩) (cnt key q j + 1) m else V2 key bL m j k) = V2 key bL m (j + 1) := by
  funext k
  by_cases e : k = q
  · subst e
    rw [if_pos rfl]
    unfold V2
    rw [cnt_hit h, if_neg (by omega), if_neg (by omega)]
  · rw [if_neg e]
    unfold V2
    rw [cnt_miss (by omega)]

theorem since_box2 {w w2 : World} {o : Obj} (hs : (w.alloc o).Since (w.alloc o).heap.size w2) : w.Since w.heap.size w2 := by
  refine World.Since.trans (w' := w.alloc o) ((World.Since.refl _ _).alloc (Nat.le_refl _) _) ?_
  exact ⟨hs.os, hs.tape, hs.output, hs.size, fun j hj => hs.block j (by simp; omega)⟩

theorem V2_same {key : Nat → Nat} {N : Nat} {bL m j : Nat} (h : ¬ key j < N) : ∀ q, q < N → V2 key bL m (j + 1) q = V2 key bL m j q := by
  intro q hq
  unfold V2
  rw [cnt_miss (by omega)]
theorem S1.congrV {W0 wr : World} {bx bt bm bh bo n G : Nat} {T V V' Oth : Nat → Value} (h : S1 W0 wr bx bt bm bh bo n G T V Oth) (e : ∀ q, q < 2 * (G + 1) → V q = V' q) : S1 W0 wr bx bt bm bh bo n G T V' Oth :=
  ⟨h.x, h.told, h.msg.congr fun i hi => e i (by omega), h.hop.congr fun i hi => e (G + 1 + i) (by omega), h.oth, h.ne, h.nx, h.nt, h.nm, h.nh, h.no, h.since⟩

/-- the windows while they are cut: those before cur are -/
def V4 (key : Nat → Nat) (bL m n cur q : Nat) : Value := if q < cur then V5 key bL n 0 q else V2 key bL m n q

theorem V4_skip {key : Nat → Nat} {bL m n q : Nat} (h : cnt key q n = 0) (q' : Nat) : V4 key bL m n q q' = V4 key bL m n (q + 1) q' := by
  unfold V4
  by_cases c : q' < q
  · rw [if_pos c, if_pos (by omega)]
  · rw [if_neg c]
    by_cases e : q' = q
    · subst e
      rw [if_pos (by omega)]
      unfold V2 V5
      rw [h, if_pos rfl, if_pos rfl, if_pos rfl]
      rfl
    · rw [if_neg (by omega)]

theorem V4_set {key : Nat → Nat} {bL m n q : Nat} (h : cnt key q n ≠ 0) (q' : Nat) : (if q' = q then Value.slice (some ⟨bL, stj key n q * 5, none⟩) 0 (cnt key q n) else V4 key bL m n q q') = V4 key bL m n (q + 1) q' := by
  by_cases e : q' = q
  · subst e
    rw [if_pos rfl]
    unfold V4
    rw [if_pos (by omega)]
    unfold V5
    rw [if_neg h]
    rfl
  · rw [if_neg e]
    unfold V4
    by_cases c : q' < q
    · rw [if_pos c, if_pos (by omega)]
    · rw [if_neg c, if_neg (by omega)]

theorem size68 : (Try.prog.info? 68).map (·.size) = some 5 := by kernel_rfl
theorem below13 {j : Nat} (h : j < 13) : j = 0 ∨ j = 1 ∨ j = 2 ∨ j = 3 ∨ j = 4 ∨ j = 5 ∨ j = 6 ∨ j = 7 ∨ j = 8 ∨ j = 9 ∨ j = 10 ∨ j = 11 ∨ j = 12 := by omega
theorem V5_win (key : Nat → Nat) (bL n q : Nat) : V5 key bL n n q = winV key n bL q := by
  unfold V5 winV
  by_cases h : cnt key q n = 0
  · rw [if_pos h, if_pos h, h]
  · rw [if_neg h, if_neg h]

/-- the cells that a Told is stored into -/
theorem told_store {W0 wr w2 : World} {bx bt bm bh bo n G j : Nat} {T V Oth : Nat → Value} (h : S1 W0 wr bx bt bm bh bo n G T V Oth) (hs : wr.Since wr.heap.size w2) (hj : j < n) :
    w2.cell? ⟨bt, j * 5, none⟩ = some (T (j * 5)) ∧ w2.cell? ⟨bt, j * 5 + 1, none⟩ = some (T (j * 5 + 1)) ∧ w2.cell? ⟨bt, j * 5 + 2, none⟩ = some (T (j * 5 + 2)) ∧ w2.cell? ⟨bt, j * 5 + 3, none⟩ = some (T (j * 5 + 3)) ∧ w2.cell? ⟨bt, j * 5 + 4, none⟩ = some (T (j * 5 + 4)) ∧ ∀ i, w2.frozen? ⟨bt, i, none⟩ = false := by
  have hr := (h.step hs).told
  exact ⟨hr.cell (by omega), hr.cell (by omega), hr.cell (by omega), hr.cell (by omega), hr.cell (by omega), fun i => hr.frozen i⟩

set_option maxRecDepth 100000 in
set_option maxHeartbeats 8000000 in
theorem index_lies (bc bl n G : Nat) (A : Nat → Option Addr) (C : Nat → Nat) (L : Nat → Lie) (O : Option Addr) (no co : Nat) (s : Nat → ByteArray) (w : World) (hG1 : G ≤ 65536) (hn : n ≤ 1048576) (hno : no ≤ 1048576) (hl : ∀ i, i < n → (L i).n ≤ 1048576)
    (hG : w.cell? ⟨bc, 0, none⟩ = some (.int .i64 G)) (hL : w.cell? ⟨bc, 10, none⟩ = some (.slice (some ⟨bl, 0, none⟩) n n))
    (hLi : LiesIn w bl 0 n (fun i => .slice (A i) (L i).n (C i)) L) (hP : ∀ i, i < n → PathR w (A i) (L i)) (hO : StrsR w O no s) (hv : Valid L n G) :
    Calls Try.prog 13 #[.pointer (some ⟨bc, 0, none⟩), .slice O no co] w fun e w' =>
      ∃ bt bm bh bo bL T V, e = .returned (.agg #[.slice (some ⟨bt, 0, none⟩) n n, .slice (some ⟨bm, 0, none⟩) (G + 1) (G + 1), .slice (some ⟨bh, 0, none⟩) (G + 1) (G + 1), .slice (some ⟨bo, 0, none⟩) (G + 1) (G + 1)]) ∧ Fin w w' bt bm bh bo bL n G A C L s no T V := by
  have mk50 := fun W => make_many 50 59 #[.int .i64 0, .bool false, .int .i64 0, .int .i64 0, .int .u64 0] _ 5 40 Try.underlying50 info59 rfl n (by omega) (by omega) W
  have mk51 := fun W => run_make_row' (P := Try.prog) 51 69 (.slice none 0 0) 24 Try.underlying51 info69 rfl .i64 .i64 (G + 1) (by omega) (by omega) W
  have mk52 := fun W => run_make_row' (P := Try.prog) 52 65 (.pointer none) 8 Try.underlying52 info65 rfl .i64 .i64 (G + 1) (by omega) (by omega) W
  have hb : bc < w.heap.size := World.block_lt_of_cell? w _ hG
  have HLi : Hid (LiesIn w bl 0 n (fun i => .slice (A i) (L i).n (C i)) L) := hLi
  have HP : Hid (∀ i, i < n → PathR w (A i) (L i)) := hP
  have HO : Hid (StrsR w O no s) := hO
  have HV : Hid (Valid L n G) := hv
  have HLn : Hid (∀ i, i < n → (L i).n ≤ 1048576) := hl
  clear hLi hP hO hv hl
  go_enter Try.func13, Try.ntmps13
  go_upto_region 1 with fail
  have hbB : bc < (w.alloc (.cells #[.slice none 0 0, .slice none 0 0, .slice none 0 0, .slice none 0 0] 54)).heap.size := by simp; omega
  have HG : (w.alloc (.cells #[.slice none 0 0, .slice none 0 0, .slice none 0 0, .slice none 0 0] 54)).cell? ⟨bc, 0, none⟩ = some (.int .i64 G) := (World.cell?_alloc_lt w _ _ hb).trans hG
  have HL : (w.alloc (.cells #[.slice none 0 0, .slice none 0 0, .slice none 0 0, .slice none 0 0] 54)).cell? ⟨bc, 10, none⟩ = some (.slice (some ⟨bl, 0, none⟩) n n) := (World.cell?_alloc_lt w _ _ hb).trans hL
  have hres : (w.alloc (.cells #[.slice none 0 0, .slice none 0 0, .slice none 0 0, .slice none 0 0] 54)).rowIs w.heap.size 54 4 (fun _ => .slice none 0 0) := alloc54_row w
  have hW0s : w.Since w.heap.size (w.alloc (.cells #[.slice none 0 0, .slice none 0 0, .slice none 0 0, .slice none 0 0] 54)) := (World.Since.refl _ _).alloc (Nat.le_refl _) _
  generalize hW0 : w.alloc (.cells #[.slice none 0 0, .slice none 0 0, .slice none 0 0, .slice none 0 0] 54) = W0 at *
  go_cut [5] from 21 (fun v wx => End1 W0 n G v wx)
  case first =>
    -- [[A
    rename_i J0 K0 hJK hMK
    refine wp_region_any (by kernel_rfl) ?_
    refine wpAny_from (fun a0 => J1 a0 W0 bc bl n G) (J1_start bc bl n G rfl rfl) ?_ (by kernel_rfl) ?_
    · intro listed a w i o hJ ho h0 hall
      match i, ho with
      | 0, ho =>
        simp only [List.getElem?_toArray, List.getElem?_cons_zero, Option.some.injEq] at ho
        subst ho
        exact ⟨rfl, J1_step hJ (by decide) h0 rfl (fun _ _ => run_mv rfl (hJ.1.2.2 0 (by decide) (.inl (by decide))) w) (fun _ => World.Since.refl _ _) (fun _ _ => rfl) (fun e => absurd e (by decide)) (fun e => absurd e (by decide))⟩
      | 1, ho =>
        simp only [List.getElem?_toArray, List.getElem?_cons_succ, List.getElem?_cons_zero, Option.some.injEq] at ho
        subst ho
        exact ⟨rfl, J1_step hJ (by decide) h0 rfl (fun hF _ => run_nc rfl (hF 0 (by decide) (hall ⟨0, .data⟩ (by simp) rfl)) w) (fun _ => World.Since.refl _ _) (fun _ _ => rfl) (fun e => absurd e (by decide)) (fun e => absurd e (by decide))⟩
      | 2, ho =>
        simp only [List.getElem?_toArray, List.getElem?_cons_succ, List.getElem?_cons_zero, Option.some.injEq] at ho
        subst ho
        exact ⟨rfl, J1_step hJ (by decide) h0 rfl (fun hF _ => run_fa10 rfl (hF 1 (by decide) (hall ⟨1, .data⟩ (by simp) rfl)) w) (fun _ => World.Since.refl _ _) (fun _ _ => rfl) (fun e => absurd e (by decide)) (fun e => absurd e (by decide))⟩
      | 3, ho =>
        simp only [List.getElem?_toArray, List.getElem?_cons_succ, List.getElem?_cons_zero, Option.some.injEq] at ho
        subst ho
        exact ⟨rfl, J1_step hJ (by decide) h0 rfl (fun hF hS => run_ld38 rfl (hF 2 (by decide) (hall ⟨2, .data⟩ (by simp) rfl)) ((hS.cell hbB).trans HL)) (fun _ => World.Since.refl _ _) (fun _ _ => rfl) (fun e => absurd e (by decide)) (fun e => absurd e (by decide))⟩
      | 4, ho =>
        simp only [List.getElem?_toArray, List.getElem?_cons_succ, List.getElem?_cons_zero, Option.some.injEq] at ho
        subst ho
        exact ⟨rfl, J1_step hJ (by decide) h0 rfl (fun hF _ => run_len rfl (hF 3 (by decide) (hall ⟨3, .data⟩ (by simp) rfl)) w) (fun _ => World.Since.refl _ _) (fun _ _ => rfl) (fun e => absurd e (by decide)) (fun e => absurd e (by decide))⟩
      | 5, ho =>
        simp only [List.getElem?_toArray, List.getElem?_cons_succ, List.getElem?_cons_zero, Option.some.injEq] at ho
        subst ho
        exact ⟨rfl, J1_step hJ (by decide) h0 rfl (fun hF _ => run_mk rfl (hF 4 (by decide) (hall ⟨4, .data⟩ (by simp) rfl)) (mk50 w)) (fun _ => (World.Since.refl _ _).alloc (Nat.le_refl _) _) (fun _ hS => by
          obtain ⟨g, hg⟩ := made_row w #[.int .i64 0, .bool false, .int .i64 0, .int .i64 0, .int .u64 0] (n * 5) 59
          exact ⟨_, g, rfl, hS.size, hg⟩) (fun e => absurd e (by decide)) (fun e => absurd e (by decide))⟩
      | 6, ho =>
        simp only [List.getElem?_toArray, List.getElem?_cons_succ, List.getElem?_cons_zero, Option.some.injEq] at ho
        subst ho
        exact ⟨rfl, J1_step hJ (by decide) h0 rfl (fun _ _ => run_mv rfl (hJ.1.2.2 0 (by decide) (.inl (by decide))) w) (fun _ => World.Since.refl _ _) (fun _ _ => rfl) (fun e => absurd e (by decide)) (fun e => absurd e (by decide))⟩
      | 7, ho =>
        simp only [List.getElem?_toArray, List.getElem?_cons_succ, List.getElem?_cons_zero, Option.some.injEq] at ho
        subst ho
        exact ⟨rfl, J1_step hJ (by decide) h0 rfl (fun hF _ => run_nc rfl (hF 6 (by decide) (hall ⟨6, .data⟩ (by simp) rfl)) w) (fun _ => World.Since.refl _ _) (fun _ _ => rfl) (fun e => absurd e (by decide)) (fun e => absurd e (by decide))⟩
      | 8, ho =>
        simp only [List.getElem?_toArray, List.getElem?_cons_succ, List.getElem?_cons_zero, Option.some.injEq] at ho
        subst ho
        exact ⟨rfl, J1_step hJ (by decide) h0 rfl (fun hF _ => run_fa0 rfl (hF 7 (by decide) (hall ⟨7, .data⟩ (by simp) rfl)) w) (fun _ => World.Since.refl _ _) (fun _ _ => rfl) (fun e => absurd e (by decide)) (fun e => absurd e (by decide))⟩
      | 9, ho =>
        simp only [List.getElem?_toArray, List.getElem?_cons_succ, List.getElem?_cons_zero, Option.some.injEq] at ho
        subst ho
        exact ⟨rfl, J1_step hJ (by decide) h0 rfl (fun hF hS => run_ld3 rfl (hF 8 (by decide) (hall ⟨8, .data⟩ (by simp) rfl)) ((hS.cell hbB).trans HG)) (fun _ => World.Since.refl _ _) (fun _ _ => rfl) (fun e => absurd e (by decide)) (fun e => absurd e (by decide))⟩
      | 10, ho =>
        simp only [List.getElem?_toArray, List.getElem?_cons_succ, List.getElem?_cons_zero, Option.some.injEq] at ho
        subst ho
        exact ⟨rfl, J1_step hJ (by decide) h0 rfl (fun hF _ => run_inc rfl (hF 9 (by decide) (hall ⟨9, .data⟩ (by simp) rfl)) rfl hG1 w) (fun _ => World.Since.refl _ _) (fun _ _ => rfl) (fun e => absurd e (by decide)) (fun e => absurd e (by decide))⟩
      | 11, ho =>
        simp only [List.getElem?_toArray, List.getElem?_cons_succ, List.getElem?_cons_zero, Option.some.injEq] at ho
        subst ho
        exact ⟨rfl, J1_step hJ (by decide) h0 rfl (fun hF _ => run_mk rfl (hF 10 (by decide) (hall ⟨10, .data⟩ (by simp) rfl)) (mk51 w)) (fun _ => (World.Since.refl _ _).alloc (Nat.le_refl _) _) (fun _ hS => ⟨_, rfl, hS.size, World.rowIs_made w _ _ _⟩) (fun _ => ⟨_, _, rfl, Nat.le_refl _⟩) (fun e => absurd e (by decide))⟩
      | 12, ho =>
        simp only [List.getElem?_toArray, List.getElem?_cons_succ, List.getElem?_cons_zero, Option.some.injEq] at ho
        subst ho
        exact ⟨rfl, J1_step hJ (by decide) h0 rfl (fun _ _ => run_mv rfl (hJ.1.2.2 0 (by decide) (.inl (by decide))) w) (fun _ => World.Since.refl _ _) (fun _ _ => rfl) (fun e => absurd e (by decide)) (fun e => absurd e (by decide))⟩
      | 13, ho =>
        simp only [List.getElem?_toArray, List.getElem?_cons_succ, List.getElem?_cons_zero, Option.some.injEq] at ho
        subst ho
        exact ⟨rfl, J1_step hJ (by decide) h0 rfl (fun hF _ => run_nc rfl (hF 12 (by decide) (hall ⟨12, .data⟩ (by simp) rfl)) w) (fun _ => World.Since.refl _ _) (fun _ _ => rfl) (fun e => absurd e (by decide)) (fun e => absurd e (by decide))⟩
      | 14, ho =>
        simp only [List.getElem?_toArray, List.getElem?_cons_succ, List.getElem?_cons_zero, Option.some.injEq] at ho
        subst ho
        exact ⟨rfl, J1_step hJ (by decide) h0 rfl (fun hF _ => run_fa0 rfl (hF 13 (by decide) (hall ⟨13, .data⟩ (by simp) rfl)) w) (fun _ => World.Since.refl _ _) (fun _ _ => rfl) (fun e => absurd e (by decide)) (fun e => absurd e (by decide))⟩
      | 15, ho =>
        simp only [List.getElem?_toArray, List.getElem?_cons_succ, List.getElem?_cons_zero, Option.some.injEq] at ho
        subst ho
        exact ⟨rfl, J1_step hJ (by decide) h0 rfl (fun hF hS => run_ld3 rfl (hF 14 (by decide) (hall ⟨14, .data⟩ (by simp) rfl)) ((hS.cell hbB).trans HG)) (fun _ => World.Since.refl _ _) (fun _ _ => rfl) (fun e => absurd e (by decide)) (fun e => absurd e (by decide))⟩
      | 16, ho =>
        simp only [List.getElem?_toArray, List.getElem?_cons_succ, List.getElem?_cons_zero, Option.some.injEq] at ho
        subst ho
        exact ⟨rfl, J1_step hJ (by decide) h0 rfl (fun hF _ => run_inc rfl (hF 15 (by decide) (hall ⟨15, .data⟩ (by simp) rfl)) rfl hG1 w) (fun _ => World.Since.refl _ _) (fun _ _ => rfl) (fun e => absurd e (by decide)) (fun e => absurd e (by decide))⟩
      | 17, ho =>
        simp only [List.getElem?_toArray, List.getElem?_cons_succ, List.getElem?_cons_zero, Option.some.injEq] at ho
        subst ho
        exact ⟨rfl, J1_step hJ (by decide) h0 rfl (fun hF _ => run_mk rfl (hF 16 (by decide) (hall ⟨16, .data⟩ (by simp) rfl)) (mk51 w)) (fun _ => (World.Since.refl _ _).alloc (Nat.le_refl _) _) (fun _ hS => ⟨_, rfl, hS.size, World.rowIs_made w _ _ _⟩) (fun e => absurd e (by decide)) (fun _ => ⟨_, _, rfl, Nat.le_refl _⟩)⟩
      | 18, ho =>
        simp only [List.getElem?_toArray, List.getElem?_cons_succ, List.getElem?_cons_zero, Option.some.injEq] at ho
        subst ho
        exact ⟨rfl, J1_step hJ (by decide) h0 rfl (fun _ _ => run_mv rfl (hJ.1.2.2 0 (by decide) (.inl (by decide))) w) (fun _ => World.Since.refl _ _) (fun _ _ => rfl) (fun e => absurd e (by decide)) (fun e => absurd e (by decide))⟩
      | 19, ho =>
        simp only [List.getElem?_toArray, List.getElem?_cons_succ, List.getElem?_cons_zero, Option.some.injEq] at ho
        subst ho
        exact ⟨rfl, J1_step hJ (by decide) h0 rfl (fun hF _ => run_nc rfl (hF 18 (by decide) (hall ⟨18, .data⟩ (by simp) rfl)) w) (fun _ => World.Since.refl _ _) (fun _ _ => rfl) (fun e => absurd e (by decide)) (fun e => absurd e (by decide))⟩
      | 20, ho =>
        simp only [List.getElem?_toArray, List.getElem?_cons_succ, List.getElem?_cons_zero, Option.some.injEq] at ho
        subst ho
        exact ⟨rfl, J1_step hJ (by decide) h0 rfl (fun hF _ => run_fa0 rfl (hF 19 (by decide) (hall ⟨19, .data⟩ (by simp) rfl)) w) (fun _ => World.Since.refl _ _) (fun _ _ => rfl) (fun e => absurd e (by decide)) (fun e => absurd e (by decide))⟩
      | 21, ho =>
        simp only [List.getElem?_toArray, List.getElem?_cons_succ, List.getElem?_cons_zero, Option.some.injEq] at ho
        subst ho
        exact ⟨rfl, J1_step hJ (by decide) h0 rfl (fun hF hS => run_ld3 rfl (hF 20 (by decide) (hall ⟨20, .data⟩ (by simp) rfl)) ((hS.cell hbB).trans HG)) (fun _ => World.Since.refl _ _) (fun _ _ => rfl) (fun e => absurd e (by decide)) (fun e => absurd e (by decide))⟩
      | 22, ho =>
        simp only [List.getElem?_toArray, List.getElem?_cons_succ, List.getElem?_cons_zero, Option.some.injEq] at ho
        subst ho
        exact ⟨rfl, J1_step hJ (by decide) h0 rfl (fun hF _ => run_inc rfl (hF 21 (by decide) (hall ⟨21, .data⟩ (by simp) rfl)) rfl hG1 w) (fun _ => World.Since.refl _ _) (fun _ _ => rfl) (fun e => absurd e (by decide)) (fun e => absurd e (by decide))⟩
      | 23, ho =>
        simp only [List.getElem?_toArray, List.getElem?_cons_succ, List.getElem?_cons_zero, Option.some.injEq] at ho
        subst ho
        exact ⟨rfl, J1_step hJ (by decide) h0 rfl (fun hF _ => run_mk rfl (hF 22 (by decide) (hall ⟨22, .data⟩ (by simp) rfl)) (mk52 w)) (fun _ => (World.Since.refl _ _).alloc (Nat.le_refl _) _) (fun _ hS => ⟨_, rfl, hS.size, World.rowIs_made w _ _ _⟩) (fun e => absurd e (by decide)) (fun e => absurd e (by decide))⟩
      | 24, ho =>
        simp only [List.getElem?_toArray, List.getElem?_cons_succ, List.getElem?_cons_zero, Option.some.injEq] at ho
        subst ho
        refine ⟨rfl, ?_⟩
        obtain ⟨hfr, hb⟩ := hJ
        rcases hb with ⟨h26, hFa, hS, hne⟩ | ⟨hal, _⟩
        · obtain ⟨bt, g, t1, t2, t3⟩ := hFa 5 (by decide) (hall ⟨5, .data⟩ (by simp) rfl)
          obtain ⟨bm, m1, m2, m3⟩ := hFa 11 (by decide) (hall ⟨11, .data⟩ (by simp) rfl)
          obtain ⟨bh, q1, q2, q3⟩ := hFa 17 (by decide) (hall ⟨17, .data⟩ (by simp) rfl)
          obtain ⟨bo, r1, r2, r3⟩ := hFa 23 (by decide) (hall ⟨23, .data⟩ (by simp) rfl)
          have hmh := hne (hall ⟨11, .data⟩ (by simp) rfl) (hall ⟨17, .data⟩ (by simp) rfl) _ _ _ _ m1 q1
          exact J1_step ⟨hfr, .inl ⟨h26, hFa, hS, hne⟩⟩ (by decide) h0 rfl (fun _ _ => run_bd rfl t1 m1 q1 r1 w) (fun _ => World.Since.refl _ _) (fun _ _ => ⟨bt, bm, bh, bo, rfl, ⟨g, t3⟩, m3, q3, r3, hmh, t2, m2, q2, r2⟩) (fun e => absurd e (by decide)) (fun e => absurd e (by decide))
        · have := getD_tf h0
          rw [hal 24 (by decide)] at this
          simp at this
      | 25, ho =>
        simp only [List.getElem?_toArray, List.getElem?_cons_succ, List.getElem?_cons_zero, Option.some.injEq] at ho
        subst ho
        exact ⟨rfl, J1_step hJ (by decide) h0 rfl (fun _ _ => run_al rfl w) (fun _ => (World.Since.refl _ _).alloc (Nat.le_refl _) _) (fun _ hS => ⟨_, rfl, hS.size, alloc54_row w⟩) (fun e => absurd e (by decide)) (fun e => absurd e (by decide))⟩
      | 26, ho =>
        simp only [List.getElem?_toArray, List.getElem?_cons_succ, List.getElem?_cons_zero, Option.some.injEq] at ho
        subst ho
        refine ⟨rfl, J1_store hJ h0 rfl rfl fun j hj => ?_⟩
        refine hall ⟨j, .phase⟩ ?_ rfl
        have hj' := below26 hj
        rcases hj' with rfl | rfl | rfl | rfl | rfl | rfl | rfl | rfl | rfl | rfl | rfl | rfl | rfl | rfl | rfl | rfl | rfl | rfl | rfl | rfl | rfl | rfl | rfl | rfl | rfl | rfl <;> simp
      | i + 27, ho => simp at ho
    · intro listed a w hJ hup
      obtain ⟨hfr, hend⟩ := J1_end hJ (hup 26 (by simp))
      refine hMK _ _ (Met.intro (hJK _ _ ?_))
      exact ⟨a.eval (.tmp 5), a.eval (.tmp 21), a.eval (.tmp 22), a.eval (.tmp 23), a.eval (.tmp 24), a.eval (.tmp 25), a.eval (.tmp 26), a.eval (.tmp 27), a.eval (.tmp 28), a.eval (.tmp 29), a.eval (.tmp 30), a.eval (.tmp 31), a.eval (.tmp 32), a.eval (.tmp 33), a.eval (.tmp 34), a.eval (.tmp 35), a.eval (.tmp 36), a.eval (.tmp 37), a.eval (.tmp 38), a.eval (.tmp 39), a.eval (.tmp 40), a.eval (.tmp 41), a.eval (.tmp 42), a.eval (.tmp 43), a.eval (.tmp 44), a.eval (.tmp 45), a.eval (.tmp 46), a.eval (.tmp 47), a.eval (.tmp 48), a.eval (.tmp 49), a.eval (.tmp 50), a.eval (.tmp 51), a.eval (.tmp 52), a.eval (.tmp 53), a.eval (.tmp 54), a.eval (.tmp 55), a.eval (.tmp 56), a.eval (.tmp 57), a.eval (.tmp 58), a.eval (.tmp 59), a.eval (.tmp 60), a.eval (.tmp 61), a.eval (.tmp 62), a.eval (.tmp 63), a.eval (.tmp 64), a.eval (.tmp 65), a.eval (.tmp 66), a.eval (.tmp 67), a.eval (.tmp 68), a.eval (.tmp 69), a.eval (.tmp 70), a.eval (.tmp 71), a.eval (.tmp 72), a.eval (.tmp 73), a.eval (.tmp 74), a.eval (.tmp 75), a.eval (.tmp 76), a.eval (.tmp 77), a.eval (.tmp 78), a.eval (.tmp 79), a.eval (.tmp 80), a.eval (.tmp 81), a.eval (.tmp 82), a.eval (.tmp 83), a.eval (.tmp 84), a.eval (.tmp 85), a.eval (.tmp 86), a.eval (.tmp 87), a.eval (.tmp 88), a.eval (.tmp 89), a.eval (.tmp 90), a.eval (.tmp 91), a.eval (.tmp 92), a.eval (.tmp 93), a.eval (.tmp 94), a.eval (.tmp 95), a.eval (.tmp 96), a.eval (.tmp 97), a.eval (.tmp 98), a.eval (.tmp 99), a.eval (.tmp 100), a.eval (.tmp 101), a.eval (.tmp 102), a.eval (.tmp 103), a.eval (.tmp 104), a.eval (.tmp 105), a.eval (.tmp 106), a.eval (.tmp 107), a.eval (.tmp 108), a.eval (.tmp 109), a.eval (.tmp 110), a.eval (.tmp 111), a.eval (.tmp 112), a.eval (.tmp 113), a.eval (.tmp 114), a.eval (.tmp 115), a.eval (.tmp 116), a.eval (.tmp 117), a.eval (.tmp 118), a.eval (.tmp 119), a.eval (.tmp 120), a.eval (.tmp 121), a.eval (.tmp 122), a.eval (.tmp 123), a.eval (.tmp 124), a.eval (.tmp 125), a.eval (.tmp 126), a.eval (.tmp 127), a.eval (.tmp 128), a.eval (.tmp 129), a.eval (.tmp 130), a.eval (.tmp 131), a.eval (.tmp 132), a.eval (.tmp 133), a.eval (.tmp 134), a.eval (.tmp 135), a.eval (.tmp 136), a.eval (.tmp 137), a.eval (.tmp 138), a.eval (.tmp 139), a.eval (.tmp 140), a.eval (.tmp 141), a.eval (.tmp 142), a.eval (.tmp 143), a.eval (.tmp 144), a.eval (.tmp 145), a.eval (.tmp 146), a.eval (.tmp 147), a.eval (.tmp 148), a.eval (.tmp 149), a.eval (.tmp 150), a.eval (.tmp 151), a.eval (.tmp 152), a.eval (.tmp 153), a.eval (.tmp 154), a.eval (.tmp 155), a.eval (.tmp 156), a.eval (.tmp 157), a.eval (.tmp 158), a.eval (.tmp 159), a.eval (.tmp 160), a.eval (.tmp 161), a.eval (.tmp 162), a.eval (.tmp 163), a.eval (.tmp 164), a.eval (.tmp 165), a.eval (.tmp 166), a.eval (.tmp 167), a.eval (.tmp 168), a.eval (.tmp 169), a.eval (.tmp 170), a.eval (.tmp 171), a.eval (.tmp 172), a.eval (.tmp 173), a.eval (.tmp 174), a.eval (.tmp 175), a.eval (.tmp 176), hend, (fr1_eq hfr).trans rfl⟩
    -- A]]
  case rest =>
    obtain ⟨bx, bt, bm, bh, bo, T0, rfl, hS⟩ := S1.of_end hcut
    have hsz : w.heap.size < W0.heap.size := hres.lt
    have HW0 : Hid (w.Since w.heap.size W0) := hW0s
    have HR : Hid (W0.rowIs w.heap.size 54 4 (fun _ => .slice none 0 0)) := hres
    have HCL : Hid (W0.cell? ⟨bc, 10, none⟩ = some (.slice (some ⟨bl, 0, none⟩) n n)) := HL
    clear mk50 mk51 mk52 hW0 hW0s hres HG HL hG hL hcut
    have hcl : wc.cell? ⟨bc, 10, none⟩ = some (.slice (some ⟨bl, 0, none⟩) n n) := (hS.since.cell hbB).trans HCL.out
    have HS0 : Hid (S1 W0 wc bx bt bm bh bo n G T0 (fun _ => .slice none 0 0) (fun _ => .pointer none)) := hS
    clear hS
    go_wp2
    go_loopw [6, 51, 7, 8] (fun o i _ _ wr => ∃ (j : Nat) (T : Nat → Value), j ≤ n ∧ i = .int .i64 j ∧ o = .int .i64 (one (keyI L G) (2 * (G + 1)) j) ∧ S1 W0 wr bx bt bm bh bo n G T (fun _ => .slice none 0 0) (othV L bt j) ∧ ToldIs s no L T j) (fun _ i _ _ _ => n - (intOf i).toNat)
    case atStart => exact ⟨0, T0, Nat.zero_le _, rfl, rfl, HS0.out, fun i hi => absurd hi (by omega)⟩
    case round =>
      obtain ⟨j, T, hj, rfl, rfl, hS, hT⟩ := hrel
      have HS : Hid (S1 W0 wr bx bt bm bh bo n G T (fun _ => .slice none 0 0) (othV L bt j)) := hS
      have HT : Hid (ToldIs s no L T j) := hT
      clear hT
      have hone := one_le (keyI L G) (2 * (G + 1)) j
      by_cases hlt : j < n
      · have hww : w.Since w.heap.size wr := HW0.out.trans ⟨hS.since.os, hS.since.tape, hS.since.output, hS.since.size, fun k hk => hS.since.block k (by omega)⟩
        -- [[B
        have hblw : bl < w.heap.size := World.block_lt_of_cell? w _ (HLi.out.nine0 hlt).1
        obtain ⟨e0, e1, e2, e3, e4, e5, e6, e7, e8⟩ := (HLi.out.since hww hblw).nine0 hlt
        have x0 := hS.x.cell (i := 0) (by omega)
        have x3 := hS.x.cell (i := 3) (by omega)
        simp only [xC, if_true, Nat.reduceEqDiff, if_false] at x0 x3
        have hwr : Hid (w.Since w.heap.size wr) := hww
        clear hww hS
        generalize hLj : L j = l at *
        generalize A j = Aj at *
        generalize C j = Cj at *
        have HC : Hid (∀ W, wr.Since wr.heap.size W → Calls Try.prog 41 #[.agg #[.slice Aj l.n Cj, .int .i64 l.dest, .int .i64 l.h0, .int .i64 l.h1, .int .i64 l.fr, .string l.od, .bool l.si, .int .i64 l.st, .int .i64 l.sd], .slice O no co] W fun e w' =>
            e = .returned (.agg #[.int .i64 (fidx s l.od no), .bool l.si, .int .i64 l.st, .int .i64 no, .int .u64 (IntKind.u64.wrap l.sd)]) ∧ W.Since W.heap.size w') :=
          fun W hW => told_any _ _ _ _ _ _ _ _ _ _ _ _ _ _ s W hno (HO.out.since (sinceT hwr.out hW hwr.out.size) (Nat.le_refl _))
        have hbx : bx < wr.heap.size := World.block_lt_of_cell? wr _ x0
        have hbt : bt < wr.heap.size := HS.out.told.lt
        have := World.new_ne wr _ x0
        have hxt : bx ≠ bt := row_ne HS.out.x HS.out.told (by decide)
        have hwt : wr.heap.size ≠ bt := by omega
        have htx : bt ≠ bx := Ne.symm hxt
        have htw : bt ≠ wr.heap.size := by omega
        go_wp2_with fail
        go_region_held3 (fun w' => w'.cell? ⟨bx, 0, none⟩ = some (.slice (some ⟨bt, 0, none⟩) n n) ∧ w'.cell? ⟨wr.heap.size, 0, none⟩ = some (.slice Aj l.n Cj) ∧ w'.cell? ⟨wr.heap.size, 1, none⟩ = some (.int .i64 l.dest) ∧ w'.cell? ⟨wr.heap.size, 2, none⟩ = some (.int .i64 l.h0) ∧ w'.cell? ⟨wr.heap.size, 3, none⟩ = some (.int .i64 l.h1) ∧ w'.cell? ⟨wr.heap.size, 4, none⟩ = some (.int .i64 l.fr) ∧ w'.cell? ⟨wr.heap.size, 5, none⟩ = some (.string l.od) ∧ w'.cell? ⟨wr.heap.size, 6, none⟩ = some (.bool l.si) ∧ w'.cell? ⟨wr.heap.size, 7, none⟩ = some (.int .i64 l.st) ∧ w'.cell? ⟨wr.heap.size, 8, none⟩ = some (.int .i64 l.sd))
          (first | go_keep | (exact keep10 ‹_› ‹_›)) ((go_at_call 41; refine (HC.out _ ((World.Since.refl _ _).alloc (Nat.le_refl _) _).drew).mono ?_; rintro e w2 ⟨rfl, hs⟩; have d := told_store HS.out (since_box hs) hlt))
        have hs' := since_box hs
        have HS3 : Hid (S1 W0 (set5 w2 bt (j * 5) (toldCell s no l)) bx bt bm bh bo n G _ _ _) := (HS.out.step hs').told5 (j * 5) (toldCell s no l)
        have hbox4 : (set5 w2 bt (j * 5) (toldCell s no l)).cell? ⟨wr.heap.size, 4, none⟩ = some (.int .i64 l.fr) := by
          refine (set5_far (by simp; omega)).trans ((hs.cell (a := ⟨wr.heap.size, 4, none⟩) (by simp)).trans ?_)
          simp
        have hgrow : wr.heap.size < (set5 w2 bt (j * 5) (toldCell s no l)).heap.size := by
          rw [set5_size]; have := hs.size; simp at this; omega
        change Exit.then _ _ _ _ (set5 w2 bt (j * 5) (toldCell s no l))
        generalize set5 w2 bt (j * 5) (toldCell s no l) = w3 at *
        clear hs hs' d HC e0 e1 e2 e3 e4 e5 e6 e7 e8 x0 x3
        by_cases hf : l.fr = 0
        · have hf' : (l.fr == 0) = true := by simp [hf]
          have HF : Hid (l.fr = 0) := hf
          clear hf
          go_wp2
          go_roundw
          case rel =>
            refine ⟨j + 1, _, by omega, by go_num, ?_, ?_, told_step HT.out hLj⟩
            · rw [one_hit (keyI_one HV.out hlt (by rw [hLj]; exact HF.out))]; go_num
            · rw [oth_same (by rw [hLj]; exact HF.out)]; exact HS3.out
          case measure => simp [intOf]; omega
        · have hvf := HV.out.fr j hlt
          rw [hLj] at hvf
          obtain ⟨kf, hkf⟩ := Int.eq_ofNat_of_zero_le hvf.1
          have hf' : ((kf : Int) == 0) = false := by simp; omega
          have hk1 : (0 : Int) ≤ (kf : Int) := by omega
          have hk2 : (kf : Int) < ((G + 1 : Nat) : Int) := by omega
          have hk3 : (kf : Int) < (G : Int) + 1 := by omega
          have hk4 : kf < G + 1 := by omega
          have HK : Hid ((L j).fr = kf ∧ kf ≠ 0) := ⟨by rw [hLj]; exact hkf, by omega⟩
          have x0 := HS3.out.x.cell (i := 0) (by omega)
          have x3 := HS3.out.x.cell (i := 3) (by omega)
          simp only [xC, if_true, Nat.reduceEqDiff, if_false] at x0 x3
          have o1 := HS3.out.oth.cell (i := kf) hk4
          have o2 := HS3.out.oth.frozen kf
          have hxo : bx ≠ bo := row_ne HS3.out.x HS3.out.oth (by decide)
          have hox : bo ≠ bx := Ne.symm hxo
          have hbo : bo < wr.heap.size := HS.out.oth.lt
          have hwo : wr.heap.size ≠ bo := by omega
          have how : bo ≠ wr.heap.size := by omega
          rw [hkf] at hbox4
          clear hf hvf
          go_wp2_with fail
          go_region_held3 (fun w' => w'.cell? ⟨bx, 3, none⟩ = some (.slice (some ⟨bo, 0, none⟩) (G + 1) (G + 1)) ∧ w'.cell? ⟨wr.heap.size, 4, none⟩ = some (.int .i64 kf) ∧ w'.cell? ⟨bx, 0, none⟩ = some (.slice (some ⟨bt, 0, none⟩) n n)) (go_keep) (fail)
          go_wp2
          go_roundw
          case rel =>
            refine ⟨j + 1, _, by omega, by go_num, ?_, ?_, told_step HT.out hLj⟩
            · rw [one_miss (keyI_oth (by rw [HK.out.1]; have := HK.out.2; omega))]
            · rw [← oth_set HK.out.1 HK.out.2]
              exact (HS3.out.setOth kf _).step ((World.Since.refl _ _).drew)
          case measure => simp [intOf]; omega
        -- B]]
      · obtain rfl : j = n := by omega
        obtain ⟨wa, hwa⟩ : ∃ wa, wa = wr := ⟨wr, rfl⟩
        subst hwa
        have x0 := hS.x.cell (i := 0) (by omega)
        have x1 := hS.x.cell (i := 1) (by omega)
        have x2 := hS.x.cell (i := 2) (by omega)
        have x3 := hS.x.cell (i := 3) (by omega)
        simp only [xC, if_true, Nat.reduceEqDiff, if_false] at x0 x1 x2 x3
        have hrow : wa.rowIs w.heap.size 54 4 (fun _ => .slice none 0 0) := HR.out.of_block (hS.since.block _ hsz)
        have hnx := hS.nx
        have hxw : bx ≠ w.heap.size := by omega
        have hwx : w.heap.size ≠ bx := by omega
        by_cases hz : one (keyI L G) (2 * (G + 1)) j = 0
        · have hz' : ((one (keyI L G) (2 * (G + 1)) j : Int) == 0) = true := by simp [hz]
          have r0 := hrow.cell (i := 0) (by omega)
          have r1 := hrow.cell (i := 1) (by omega)
          have r2 := hrow.cell (i := 2) (by omega)
          have r3 := hrow.cell (i := 3) (by omega)
          have rf := fun i => hrow.frozen i
          have HZ : Hid (one (keyI L G) (2 * (G + 1)) j = 0) := hz
          clear hz hS hrow
          go_wp2
          refine bodyPost_ret (v := .agg #[.slice (some ⟨bt, 0, none⟩) j j, .slice (some ⟨bm, 0, none⟩) (G + 1) (G + 1), .slice (some ⟨bh, 0, none⟩) (G + 1) (G + 1), .slice (some ⟨bo, 0, none⟩) (G + 1) (G + 1)]) (by simp [results, Try.results13, go_sem, r0, r1, r2, r3]) rfl ⟨bt, bm, bh, bo, 0, T, _, rfl, fin_of (g := xC bt bm bh bo j G) (mL := 0) (E := fun _ => undef) HS.out HW0.out hsz HT.out ?_ (.inl fun i hi hf => one_zero HZ.out i hi (keyI_one HV.out hi hf))⟩
          intro q hq
          have := cnt_le_one (key := keyI L G) hq j
          have hz := HZ.out
          unfold winV
          rw [if_pos (by omega)]
        · have hz' : ((one (keyI L G) (2 * (G + 1)) j : Int) == 0) = false := by simp; omega
          have hcl' : wa.cell? ⟨bc, 10, none⟩ = some (.slice (some ⟨bl, 0, none⟩) j j) := (hS.since.cell hbB).trans HCL.out
          have mk69 := fun W => make_many 69 68 _ _ 5 56 Try.underlying69 info68 rfl (one (keyI L G) (2 * (G + 1)) j) (by omega) (by omega) W
          have hbc' : bc < wa.heap.size := by have := hS.since.size; omega
          clear hz hS hrow x0 x1 x2 x3
          go_wp2
          go_loopw [88, 11, 12] (fun i _ _ wq => ∃ k : Nat, k ≤ j ∧ i = .int .i64 k ∧ S1 W0 wq bx bt bm bh bo j G T (V2 (keyI L G) wa.heap.size (one (keyI L G) (2 * (G + 1)) j) k) (othV L bt j) ∧ ∃ E, wq.rowIs wa.heap.size 68 (one (keyI L G) (2 * (G + 1)) j * 5) E) (fun i _ _ _ => j - (intOf i).toNat)
          case atStart =>
            refine ⟨0, Nat.zero_le _, rfl, ?_, made_row wa _ _ _⟩
            rw [V2_zero]
            exact HS.out.step ((World.Since.refl _ _).alloc (Nat.le_refl _) _)
          case round =>
            obtain ⟨k, hk, rfl, hS2, E, hE⟩ := hrel
            have HS2 : Hid (S1 W0 wr bx bt bm bh bo j G T (V2 (keyI L G) wa.heap.size (one (keyI L G) (2 * (G + 1)) j) k) (othV L bt j)) := hS2
            have HE : Hid (wr.rowIs wa.heap.size 68 (one (keyI L G) (2 * (G + 1)) j * 5) E) := hE
            by_cases hlt : k < j
            · have hsz1 := hS2.since.size
              have hww : w.Since w.heap.size wr := HW0.out.trans ⟨hS2.since.os, hS2.since.tape, hS2.since.output, hS2.since.size, fun m hm => hS2.since.block m (by omega)⟩
              -- [[C
              have hblw : bl < w.heap.size := World.block_lt_of_cell? w _ (HLi.out.nine0 hlt).1
              obtain ⟨e0, e1, e2, e3, e4, e5, e6, e7, e8⟩ := (HLi.out.since hww hblw).nine0 hlt
              have x1 := hS2.x.cell (i := 1) (by omega)
              have x2 := hS2.x.cell (i := 2) (by omega)
              simp only [xC, if_true, Nat.reduceEqDiff, if_false] at x1 x2
              have hPk := (HP.out k hlt).since hww (Nat.le_refl _)
              have HPk : Hid (PathR wr (A k) (L k)) := hPk
              have hlk := HLn.out k hlt
              clear hPk hS2 hE hww hsz1 mk69
              by_cases hf : (L k).fr = 0
              · have hkey := keyI_one HV.out hlt hf
                have hat := key_at bm bh HV.out hlt hf
                have hcl2 := cnt_lt (key := keyI L G) (q := keyI L G k) rfl hlt
                have hco := cnt_le_one (key := keyI L G) hkey j
                have hf' : ((L k).fr == 0) = true := by simp [hf]
                obtain ⟨q, hq⟩ : ∃ q, keyI L G k = q := ⟨_, rfl⟩
                rw [hq] at hkey hat hcl2 hco
                have HC : Hid (∀ o : Obj, Calls Try.prog 42 #[.pointer (some ⟨bx, 0, none⟩), .agg #[.slice (A k) (L k).n (C k), .int .i64 (L k).dest, .int .i64 (L k).h0, .int .i64 (L k).h1]] (wr.alloc o) fun e w' =>
                    e = .returned (.pointer (some ⟨wB bm bh G q, wO G q, none⟩)) ∧ (wr.alloc o).Since (wr.alloc o).heap.size w') := fun o => by
                  have hso : wr.Since wr.heap.size (wr.alloc o) := (World.Since.refl _ _).alloc (Nat.le_refl _) _
                  have := of_any (A k) (C k) (L k) bx bm bh G (sndN (L k)) (wr.alloc o) hlk (HPk.out.since hso (Nat.le_refl _)) hG1 hat.2.2.1 hat.2.2.2 (cellS hso x1) (cellS hso x2)
                  rw [hat.1, hat.2.1] at this
                  exact this
                have HQ : Hid (keyI L G k = q) := hq
                clear hat hf hq
                go_wp2_with fail
                refine (HC.out _).mono ?_
                rintro e w2 ⟨rfl, hs⟩
                have hs' : wr.Since wr.heap.size w2 := since_box2 hs
                have hS3 := HS2.out.step hs'
                have gv := hS3.getV hkey
                have g1 := gv.1
                have g2 := gv.2
                unfold V2 at g1
                have HS3 : Hid (S1 W0 w2 bx bt bm bh bo j G T (V2 (keyI L G) wa.heap.size (one (keyI L G) (2 * (G + 1)) j) k) (othV L bt j)) := hS3
                have HE3 : Hid (w2.rowIs wa.heap.size 68 (one (keyI L G) (2 * (G + 1)) j * 5) E) := rowS HE.out hs'
                have hb1 : ((cnt (keyI L G) q k : Int) + 1) ≤ (one (keyI L G) (2 * (G + 1)) j : Int) := by omega
                clear hs hs' hS3 gv HC e0 e1 e2 e3 e4 e5 e6 e7 e8 x1 x2
                go_wp2
                go_roundw
                case rel =>
                  refine ⟨k + 1, by omega, by go_num, ?_, E, HE3.out.setOther (by unfold wB; have h1 := row_ne HE3.out HS3.out.msg (by decide); have h2 := row_ne HE3.out HS3.out.hop (by decide); split <;> assumption) _⟩
                  rw [← V2_set HQ.out]
                  exact HS3.out.setV q hkey _
                case measure => simp [intOf]; omega
              · have hf' : ((L k).fr == 0) = false := by simp [hf]
                have HK : Hid (¬ keyI L G k < 2 * (G + 1)) := keyI_oth hf
                clear hf
                go_wp2
                go_roundw
                case rel =>
                  refine ⟨k + 1, by omega, by go_num, ?_, E, rowS HE.out ((World.Since.refl _ _).alloc (Nat.le_refl _) _)⟩
                  exact (HS2.out.step ((World.Since.refl _ _).alloc (Nat.le_refl _) _)).congrV fun q hq => (V2_same HK.out q hq).symm
                case measure => simp [intOf]; omega
              -- C]]
            · obtain rfl : k = j := by omega
              have x1 := hS2.x.cell (i := 1) (by omega)
              have x2 := hS2.x.cell (i := 2) (by omega)
              simp only [xC, if_true, Nat.reduceEqDiff, if_false] at x1 x2
              obtain ⟨wb, hwb⟩ : ∃ wb, wb = wr := ⟨wr, rfl⟩
              subst hwb
              clear hS2 hE mk69 hbc' hcl'
              go_wp2
              go_loopw [13, 114] (fun nx i wr => ∃ z : Nat, z ≤ 2 ∧ i = .int .i64 z ∧ nx = .int .i64 (stj (keyI L G) k (z * (G + 1))) ∧ S1 W0 wr bx bt bm bh bo k G T (V4 (keyI L G) wa.heap.size (one (keyI L G) (2 * (G + 1)) k) k (z * (G + 1))) (othV L bt k) ∧ wr.rowIs wa.heap.size 68 (one (keyI L G) (2 * (G + 1)) k * 5) E ∧ wr.cell? ⟨wb.heap.size, 0, none⟩ = some (.slice (some ⟨bm, 0, none⟩) (G + 1) (G + 1)) ∧ wr.cell? ⟨wb.heap.size, 1, none⟩ = some (.slice (some ⟨bh, 0, none⟩) (G + 1) (G + 1)) ∧ wb.heap.size < wr.heap.size) (fun _ i _ => 2 - (intOf i).toNat)
              case atStart =>
                have hso : ∀ o, wb.Since wb.heap.size (wb.alloc o) := fun o => (World.Since.refl _ _).alloc (Nat.le_refl _) _
                refine ⟨0, by omega, rfl, by simp [stj], ?_, rowS HE.out (hso _), by simp, by simp, by simp⟩
                exact (HS2.out.step (hso _)).congrV fun q hq => by simp [V4]
              case round =>
                obtain ⟨z, hz2, rfl, rfl, hS4, hE4, hl0, hl1, hlt4⟩ := hrel
                by_cases hz3 : z < 2
                · obtain ⟨bS, hbS, hwB⟩ : ∃ bS, wr.cell? ⟨wb.heap.size, z, none⟩ = some (.slice (some ⟨bS, 0, none⟩) (G + 1) (G + 1)) ∧ ∀ c, c < G + 1 → wB bm bh G (z * (G + 1) + c) = bS ∧ wO G (z * (G + 1) + c) = c := by
                    have hz4 : z = 0 ∨ z = 1 := by omega
                    rcases hz4 with rfl | rfl
                    · exact ⟨bm, hl0, fun c hc => by unfold wB wO; rw [if_pos (by omega), if_pos (by omega)]; omega⟩
                    · exact ⟨bh, hl1, fun c hc => by unfold wB wO; rw [if_neg (by omega), if_neg (by omega)]; omega⟩
                  have HS4 : Hid (S1 W0 wr bx bt bm bh bo k G T (V4 (keyI L G) wa.heap.size (one (keyI L G) (2 * (G + 1)) k) k (z * (G + 1))) (othV L bt k)) := hS4
                  have HE4 : Hid (wr.rowIs wa.heap.size 68 (one (keyI L G) (2 * (G + 1)) k * 5) E) := hE4
                  -- [[D
                  have HWB : Hid (∀ c, c < G + 1 → wB bm bh G (z * (G + 1) + c) = bS ∧ wO G (z * (G + 1) + c) = c) := hwB
                  have HL0 : Hid (wr.cell? ⟨wb.heap.size, 0, none⟩ = some (.slice (some ⟨bm, 0, none⟩) (G + 1) (G + 1)) ∧ wr.cell? ⟨wb.heap.size, 1, none⟩ = some (.slice (some ⟨bh, 0, none⟩) (G + 1) (G + 1)) ∧ wb.heap.size < wr.heap.size) := ⟨hl0, hl1, hlt4⟩
                  obtain ⟨wd, hwd⟩ : ∃ wd, wd = wr := ⟨wr, rfl⟩
                  subst hwd
                  clear hS4 hE4 hwB hl0 hl1
                  go_wp2
                  go_loopw [13, 120] (fun nx i wr => ∃ c : Nat, c ≤ G + 1 ∧ i = .int .i64 c ∧ nx = .int .i64 (stj (keyI L G) k (z * (G + 1) + c)) ∧ S1 W0 wr bx bt bm bh bo k G T (V4 (keyI L G) wa.heap.size (one (keyI L G) (2 * (G + 1)) k) k (z * (G + 1) + c)) (othV L bt k) ∧ wr.rowIs wa.heap.size 68 (one (keyI L G) (2 * (G + 1)) k * 5) E ∧ wr.cell? ⟨wb.heap.size, 0, none⟩ = some (.slice (some ⟨bm, 0, none⟩) (G + 1) (G + 1)) ∧ wr.cell? ⟨wb.heap.size, 1, none⟩ = some (.slice (some ⟨bh, 0, none⟩) (G + 1) (G + 1)) ∧ wb.heap.size < wr.heap.size) (fun _ i _ => G + 1 - (intOf i).toNat)
                  case atStart => exact ⟨0, by omega, rfl, rfl, HS4.out, HE4.out, HL0.out⟩
                  case round =>
                    obtain ⟨c, hc, rfl, rfl, hS5, hE5, hl0, hl1, hlt5⟩ := hrel
                    have HS5 : Hid (S1 W0 wr bx bt bm bh bo k G T (V4 (keyI L G) wa.heap.size (one (keyI L G) (2 * (G + 1)) k) k (z * (G + 1) + c)) (othV L bt k)) := hS5
                    have HE5 : Hid (wr.rowIs wa.heap.size 68 (one (keyI L G) (2 * (G + 1)) k * 5) E) := hE5
                    have HL5 : Hid (wr.cell? ⟨wb.heap.size, 0, none⟩ = some (.slice (some ⟨bm, 0, none⟩) (G + 1) (G + 1)) ∧ wr.cell? ⟨wb.heap.size, 1, none⟩ = some (.slice (some ⟨bh, 0, none⟩) (G + 1) (G + 1)) ∧ wb.heap.size < wr.heap.size) := ⟨hl0, hl1, hlt5⟩
                    clear hE5 hl0 hl1
                    by_cases hlt : c < G + 1
                    · have hq : z * (G + 1) + c < 2 * (G + 1) := by
                        have hz4 : z = 0 ∨ z = 1 := by omega
                        rcases hz4 with rfl | rfl <;> omega
                      have gv := hS5.getV hq
                      rw [(HWB.out c hlt).1, (HWB.out c hlt).2] at gv
                      have HQB : Hid (wB bm bh G (z * (G + 1) + c) = bS ∧ wO G (z * (G + 1) + c) = c) := HWB.out c hlt
                      have hend := st_end (key := keyI L G) (n := k) hq
                      have HST : Hid (stj (keyI L G) k (z * (G + 1) + (c + 1)) = stj (keyI L G) k (z * (G + 1) + c) + cnt (keyI L G) (z * (G + 1) + c) k) := rfl
                      generalize hqq : z * (G + 1) + c = q at *
                      have g1 := gv.1
                      have g2 := gv.2
                      unfold V4 V2 at g1
                      rw [if_neg (by omega)] at g1
                      clear gv hS5
                      by_cases h0 : cnt (keyI L G) q k = 0
                      · rw [h0] at g1
                        have HZ : Hid (cnt (keyI L G) q k = 0) := h0
                        clear h0
                        go_wp2
                        go_roundw
                        case rel =>
                          refine ⟨c + 1, by omega, by go_num, ?_, ?_, HE5.out, HL5.out⟩
                          · rw [HST.out, HZ.out]; go_num
                          · refine HS5.out.congrV fun q' hq' => ?_
                            rw [show z * (G + 1) + (c + 1) = q + 1 by omega]
                            exact V4_skip HZ.out q'
                        case measure => simp [intOf]; omega
                      · have h1 : (0 : Int) < (cnt (keyI L G) q k : Int) := by omega
                        have h2 : (stj (keyI L G) k q : Int) + (cnt (keyI L G) q k : Int) ≤ (one (keyI L G) (2 * (G + 1)) k : Int) := by omega
                        have h3 : (0 : Int) ≤ (stj (keyI L G) k q : Int) := by omega
                        rw [if_neg h0, if_neg h0] at g1
                        have HNZ : Hid (cnt (keyI L G) q k ≠ 0) := h0
                        clear h0
                        go_wp2
                        go_roundw
                        case rel =>
                          have hbS1 : bS < wb.heap.size := by
                            have h1 := HS2.out.msg.lt
                            have h2 := HS2.out.hop.lt
                            have h3 := HQB.out.1
                            unfold wB at h3
                            split at h3 <;> omega
                          have hbS2 : wa.heap.size ≠ bS := by
                            have h1 := row_ne HE5.out HS5.out.msg (by decide)
                            have h2 := row_ne HE5.out HS5.out.hop (by decide)
                            have h3 := HQB.out.1
                            unfold wB at h3
                            split at h3 <;> (rw [← h3]; assumption)
                          refine ⟨c + 1, by omega, by go_num, ?_, ?_, HE5.out.setOther hbS2 _, ?_, ?_, ?_⟩
                          · rw [HST.out]; go_num
                          · have hset := HS5.out.setV q hq (.slice (some ⟨wa.heap.size, stj (keyI L G) k q * 5, none⟩) 0 (cnt (keyI L G) q k))
                            rw [HQB.out.1, HQB.out.2] at hset
                            refine hset.congrV fun q' hq' => ?_
                            rw [show z * (G + 1) + (c + 1) = q + 1 by omega]
                            exact V4_set HNZ.out q'
                          · rw [World.cell?_setCell_other _ _ _ _ (by intro e; simp only [Addr.mk.injEq] at e; omega)]; exact HL5.out.1
                          · rw [World.cell?_setCell_other _ _ _ _ (by intro e; simp only [Addr.mk.injEq] at e; omega)]; exact HL5.out.2.1
                          · rw [size_setCell]; exact HL5.out.2.2
                        case measure => simp [intOf]; omega
                    · obtain rfl : c = G + 1 := by omega
                      clear hS5
                      go_wp2
                      go_roundw
                      case rel =>
                        have hm : z * (G + 1) + (G + 1) = (z + 1) * (G + 1) := by rw [Nat.succ_mul]
                        have h5 := HS5.out
                        rw [hm] at h5
                        exact ⟨z + 1, by omega, by go_num, by rw [hm], h5, HE5.out, HL5.out⟩
                      case measure => simp [intOf]; omega
                  -- D]]
                · obtain rfl : z = 2 := by omega
                  have HS6 : Hid (S1 W0 wr bx bt bm bh bo k G T (V5 (keyI L G) wa.heap.size k 0) (othV L bt k)) := hS4.congrV fun q hq => by unfold V4; rw [if_pos hq]
                  have HE6 : Hid (wr.rowIs wa.heap.size 68 (one (keyI L G) (2 * (G + 1)) k * 5) E) := hE4
                  have hcl6 : wr.cell? ⟨bc, 10, none⟩ = some (.slice (some ⟨bl, 0, none⟩) k k) := (hS4.since.cell hbB).trans HCL.out
                  have hnewL : W0.heap.size ≤ wa.heap.size := HS.out.since.size
                  obtain ⟨we, hwe⟩ : ∃ we, we = wr := ⟨wr, rfl⟩
                  subst hwe
                  clear hS4 hE4 hl0 hl1 x1 x2
                  go_wp2
                  go_loopw [150, 18, 19, 20] (fun i _ _ _ wr => ∃ (j : Nat) (E : Nat → Value), j ≤ k ∧ i = .int .i64 j ∧ S1 W0 wr bx bt bm bh bo k G T (V5 (keyI L G) wa.heap.size k j) (othV L bt k) ∧ wr.rowIs wa.heap.size 68 (one (keyI L G) (2 * (G + 1)) k * 5) E ∧ EntIs (keyI L G) bt k A C L E j) (fun i _ _ _ _ => k - (intOf i).toNat)
                  case atStart => exact ⟨0, E, by omega, rfl, HS6.out, HE6.out, fun i hi => absurd hi (by omega)⟩
                  case round =>
                    obtain ⟨j, E5, hj, rfl, hS7, hE7, hEI⟩ := hrel
                    have HS7 : Hid (S1 W0 wr bx bt bm bh bo k G T (V5 (keyI L G) wa.heap.size k j) (othV L bt k)) := hS7
                    have HE7 : Hid (wr.rowIs wa.heap.size 68 (one (keyI L G) (2 * (G + 1)) k * 5) E5) := hE7
                    have HEI : Hid (EntIs (keyI L G) bt k A C L E5 j) := hEI
                    clear hE7 hEI
                    by_cases hlt : j < k
                    · have hww : w.Since w.heap.size wr := HW0.out.trans ⟨hS7.since.os, hS7.since.tape, hS7.since.output, hS7.since.size, fun m hm => hS7.since.block m (by omega)⟩
                      have hblw : bl < w.heap.size := World.block_lt_of_cell? w _ (HLi.out.nine0 hlt).1
                      obtain ⟨e0, e1, e2, e3, e4, e5, e6, e7, e8⟩ := (HLi.out.since hww hblw).nine0 hlt
                      have x1 := hS7.x.cell (i := 1) (by omega)
                      have x2 := hS7.x.cell (i := 2) (by omega)
                      simp only [xC, if_true, Nat.reduceEqDiff, if_false] at x1 x2
                      have HPk : Hid (PathR wr (A j) (L j)) := (HP.out j hlt).since hww (Nat.le_refl _)
                      have hlk := HLn.out j hlt
                      clear hS7 hww
                      go_upto_block 9 with fail
                      go_cut [150] from 151 to 175 (fun i wx => i = .int .i64 j ∧ S1 W0 wx bx bt bm bh bo k G T (V5 (keyI L G) wa.heap.size k (j + 1)) (othV L bt k) ∧ ∃ E, wx.rowIs wa.heap.size 68 (one (keyI L G) (2 * (G + 1)) k * 5) E ∧ EntIs (keyI L G) bt k A C L E (j + 1))
                      case first =>
                        rename_i J0 K0 hJK hMK
                        by_cases hf : (L j).fr = 0
                        · have hkey := keyI_one HV.out hlt hf
                          have hat := key_at bm bh HV.out hlt hf
                          have hcl2 := cnt_lt (key := keyI L G) (q := keyI L G j) rfl hlt
                          have hf' : ((L j).fr == 0) = true := by simp [hf]
                          have HF : Hid ((L j).fr = 0) := hf
                          obtain ⟨q, hq⟩ : ∃ q, keyI L G j = q := ⟨_, rfl⟩
                          rw [hq] at hkey hat hcl2
                          have HC : Hid (∀ o : Obj, Calls Try.prog 42 #[.pointer (some ⟨bx, 0, none⟩), .agg #[.slice (A j) (L j).n (C j), .int .i64 (L j).dest, .int .i64 (L j).h0, .int .i64 (L j).h1]] (wr.alloc o) fun e w' =>
                              e = .returned (.pointer (some ⟨wB bm bh G q, wO G q, none⟩)) ∧ (wr.alloc o).Since (wr.alloc o).heap.size w') := fun o => by
                            have hso : wr.Since wr.heap.size (wr.alloc o) := (World.Since.refl _ _).alloc (Nat.le_refl _) _
                            have := of_any (A j) (C j) (L j) bx bm bh G (sndN (L j)) (wr.alloc o) hlk (HPk.out.since hso (Nat.le_refl _)) hG1 hat.2.2.1 hat.2.2.2 (cellS hso x1) (cellS hso x2)
                            rw [hat.1, hat.2.1] at this
                            exact this
                          have HQ : Hid (keyI L G j = q) := hq
                          clear hat hf hq
                          go_wp2_with fail
                          refine (HC.out _).mono ?_
                          rintro e w2 ⟨rfl, hs⟩
                          have hs' : wr.Since wr.heap.size w2 := since_box2 hs
                          have b0 := (hs.cell (a := ⟨wr.heap.size, 0, none⟩) (by simp)).trans (World.cell?_alloc_new _ _ _ _)
                          have b1 := (hs.cell (a := ⟨wr.heap.size, 1, none⟩) (by simp)).trans (World.cell?_alloc_new _ _ _ _)
                          have b2 := (hs.cell (a := ⟨wr.heap.size, 2, none⟩) (by simp)).trans (World.cell?_alloc_new _ _ _ _)
                          have b3 := (hs.cell (a := ⟨wr.heap.size, 3, none⟩) (by simp)).trans (World.cell?_alloc_new _ _ _ _)
                          have HS8 : Hid (S1 W0 w2 bx bt bm bh bo k G T (V5 (keyI L G) wa.heap.size k j) (othV L bt k)) := HS7.out.step hs'
                          have HE8 : Hid (w2.rowIs wa.heap.size 68 (one (keyI L G) (2 * (G + 1)) k * 5) E5) := rowS HE7.out hs'
                          have hbox : wr.heap.size < w2.heap.size := by have := hs.size; simp at this; omega
                          clear hs hs' HC e0 e1 e2 e3 e4 e5 e6 e7 e8 x1 x2
                          go_upto_region 38 with fail
                          have hgv := HS8.out.getV hkey
                          have hown : w2.drew.cell? ⟨wB bm bh G q, wO G q, none⟩ = some (.slice (some ⟨wa.heap.size, stj (keyI L G) k q * 5, none⟩) (cnt (keyI L G) q j) (cnt (keyI L G) q k)) := by
                            refine hgv.1.trans ?_; unfold V5; rw [if_neg (by omega)]
                          have c0 : w2.drew.cell? ⟨wr.heap.size, 0, none⟩ = some (.slice (A j) (L j).n (C j)) := b0
                          have c1 : w2.drew.cell? ⟨wr.heap.size, 1, none⟩ = some (.int .i64 (L j).dest) := b1
                          have c2 : w2.drew.cell? ⟨wr.heap.size, 2, none⟩ = some (.int .i64 (L j).h0) := b2
                          have c3 : w2.drew.cell? ⟨wr.heap.size, 3, none⟩ = some (.int .i64 (L j).h1) := b3
                          have hx0 : w2.drew.cell? ⟨bx, 0, none⟩ = some (.slice (some ⟨bt, 0, none⟩) k k) := HS8.out.x.cell (i := 0) (by omega)
                          have hnp : wB bm bh G q ≠ wa.heap.size := wB_ne HS8.out HE8.out
                          have hnb : wr.heap.size ≠ wa.heap.size := by have := HE7.out.lt; omega
                          have hnx5 : bx ≠ wa.heap.size := row_ne HS8.out.x HE8.out (by decide)
                          have hend5 := st_end (key := keyI L G) (n := k) hkey
                          have hroom : cnt (keyI L G) q j + 1 ≤ cnt (keyI L G) q k := by omega
                          have hso : ∀ o, w2.Since w2.heap.size (w2.drew.alloc o) := fun o => (World.Since.refl _ _).drew.alloc (Nat.le_refl _) _
                          have hsp : ∀ i, i < 5 → ((w2.drew.alloc (mkEnv bm bh G q wa.heap.size wr.heap.size bx bt k j w2.heap.size (keyI L G) (A j) (C j) (L j)).obj).cell? ⟨wa.heap.size, stj (keyI L G) k q * 5 + cnt (keyI L G) q j * 5 + i, none⟩).isSome = true ∧ (w2.drew.alloc (mkEnv bm bh G q wa.heap.size wr.heap.size bx bt k j w2.heap.size (keyI L G) (A j) (C j) (L j)).obj).frozen? ⟨wa.heap.size, stj (keyI L G) k q * 5 + cnt (keyI L G) q j * 5 + i, none⟩ = false := fun i hi => by
                            have hr := rowS HE8.out (hso (mkEnv bm bh G q wa.heap.size wr.heap.size bx bt k j w2.heap.size (keyI L G) (A j) (C j) (L j)).obj)
                            exact ⟨by rw [hr.cell (by omega)]; rfl, hr.frozen _⟩
                          have hst1 := W38_cell (e := mkEnv bm bh G q wa.heap.size wr.heap.size bx bt k j w2.heap.size (keyI L G) (A j) (C j) (L j)) (Wd := w2.drew) hown hnp true true
                          have hst2 : ((w2.drew.alloc (mkEnv bm bh G q wa.heap.size wr.heap.size bx bt k j w2.heap.size (keyI L G) (A j) (C j) (L j)).obj).setCells wa.heap.size (stj (keyI L G) k q * 5 + cnt (keyI L G) q j * 5) (mkEnv bm bh G q wa.heap.size wr.heap.size bx bt k j w2.heap.size (keyI L G) (A j) (C j) (L j)).news).frozen? ⟨wB bm bh G q, wO G q, none⟩ = false := by
                            rw [World.frozen?_setCells]
                            exact ((HS8.out.step (hso _)).getV hkey).2
                          refine wp_region_any (by kernel_rfl) ?_
                          refine wpAny_from (fun a0 => J38 (mkEnv bm bh G q wa.heap.size wr.heap.size bx bt k j w2.heap.size (keyI L G) (A j) (C j) (L j)) a0 w2.drew) (J38_start _ rfl rfl) ?_ (by kernel_rfl) ?_
                          · intro listed a w i o hJ ho h0 hall
                            match i, ho with
                            | 0, ho =>
                              simp only [List.getElem?_toArray, List.getElem?_cons_zero, Option.some.injEq] at ho
                              subst ho
                              exact ⟨rfl, J38_pure hJ (by decide) (by decide) (by decide) h0 rfl (fun _ _ => run_mv rfl (hJ.1.2.2 20 (.inl (by decide))) w) rfl⟩
                            | 1, ho =>
                              simp only [List.getElem?_toArray, List.getElem?_cons_succ, List.getElem?_cons_zero, Option.some.injEq] at ho
                              subst ho
                              exact ⟨rfl, J38_pure hJ (by decide) (by decide) (by decide) h0 rfl (fun _ _ => run_mv rfl (hJ.1.2.2 20 (.inl (by decide))) w) rfl⟩
                            | 2, ho =>
                              simp only [List.getElem?_toArray, List.getElem?_cons_succ, List.getElem?_cons_zero, Option.some.injEq] at ho
                              subst ho
                              exact ⟨rfl, J38_pure hJ (by decide) (by decide) (by decide) h0 rfl (fun hF _ => run_nc rfl (hF 1 (by decide) (hall ⟨1, .data⟩ (by simp) rfl)) w) rfl⟩
                            | 3, ho =>
                              simp only [List.getElem?_toArray, List.getElem?_cons_succ, List.getElem?_cons_zero, Option.some.injEq] at ho
                              subst ho
                              exact ⟨rfl, J38_pure hJ (by decide) (by decide) (by decide) h0 rfl (fun hF hW => by obtain ⟨l11, l12, rfl⟩ := hW; exact run_ld69 rfl (hF 2 (by decide) (hall ⟨2, .data⟩ (by simp) rfl)) (W38_cell (e := mkEnv bm bh G q wa.heap.size wr.heap.size bx bt k j w2.heap.size (keyI L G) (A j) (C j) (L j)) (Wd := w2.drew) hown hnp l11 l12)) rfl⟩
                            | 4, ho =>
                              simp only [List.getElem?_toArray, List.getElem?_cons_succ, List.getElem?_cons_zero, Option.some.injEq] at ho
                              subst ho
                              exact ⟨rfl, J38_pure hJ (by decide) (by decide) (by decide) h0 rfl (fun _ _ => run_fa44 rfl (hJ.1.2.2 19 (.inl (by decide))) w) rfl⟩
                            | 5, ho =>
                              simp only [List.getElem?_toArray, List.getElem?_cons_succ, List.getElem?_cons_zero, Option.some.injEq] at ho
                              subst ho
                              exact ⟨rfl, J38_pure hJ (by decide) (by decide) (by decide) h0 rfl (fun hF hW => by obtain ⟨l11, l12, rfl⟩ := hW; exact run_ld41 rfl (hF 4 (by decide) (hall ⟨4, .data⟩ (by simp) rfl)) (W38_cell (e := mkEnv bm bh G q wa.heap.size wr.heap.size bx bt k j w2.heap.size (keyI L G) (A j) (C j) (L j)) (Wd := w2.drew) c0 hnb l11 l12) (W38_cell (e := mkEnv bm bh G q wa.heap.size wr.heap.size bx bt k j w2.heap.size (keyI L G) (A j) (C j) (L j)) (Wd := w2.drew) c1 hnb l11 l12) (W38_cell (e := mkEnv bm bh G q wa.heap.size wr.heap.size bx bt k j w2.heap.size (keyI L G) (A j) (C j) (L j)) (Wd := w2.drew) c2 hnb l11 l12) (W38_cell (e := mkEnv bm bh G q wa.heap.size wr.heap.size bx bt k j w2.heap.size (keyI L G) (A j) (C j) (L j)) (Wd := w2.drew) c3 hnb l11 l12)) rfl⟩
                            | 6, ho =>
                              simp only [List.getElem?_toArray, List.getElem?_cons_succ, List.getElem?_cons_zero, Option.some.injEq] at ho
                              subst ho
                              exact ⟨rfl, J38_pure hJ (by decide) (by decide) (by decide) h0 rfl (fun _ _ => run_fa54 rfl (hJ.1.2.2 5 (.inl (by decide))) w) rfl⟩
                            | 7, ho =>
                              simp only [List.getElem?_toArray, List.getElem?_cons_succ, List.getElem?_cons_zero, Option.some.injEq] at ho
                              subst ho
                              exact ⟨rfl, J38_pure hJ (by decide) (by decide) (by decide) h0 rfl (fun hF hW => by obtain ⟨l11, l12, rfl⟩ := hW; exact run_ld50 rfl (hF 6 (by decide) (hall ⟨6, .data⟩ (by simp) rfl)) (W38_cell (e := mkEnv bm bh G q wa.heap.size wr.heap.size bx bt k j w2.heap.size (keyI L G) (A j) (C j) (L j)) (Wd := w2.drew) hx0 hnx5 l11 l12)) rfl⟩
                            | 8, ho =>
                              simp only [List.getElem?_toArray, List.getElem?_cons_succ, List.getElem?_cons_zero, Option.some.injEq] at ho
                              subst ho
                              exact ⟨rfl, J38_pure hJ (by decide) (by decide) (by decide) h0 rfl (fun _ _ => run_mv rfl (hJ.1.2.2 18 (.inl (by decide))) w) rfl⟩
                            | 9, ho =>
                              simp only [List.getElem?_toArray, List.getElem?_cons_succ, List.getElem?_cons_zero, Option.some.injEq] at ho
                              subst ho
                              exact ⟨rfl, J38_pure hJ (by decide) (by decide) (by decide) h0 rfl (fun hF _ => run_ix50 rfl (hF 7 (by decide) (hall ⟨7, .data⟩ (by simp) rfl)) (hF 8 (by decide) (hall ⟨8, .data⟩ (by simp) rfl)) hlt hn w) rfl⟩
                            | 10, ho =>
                              simp only [List.getElem?_toArray, List.getElem?_cons_succ, List.getElem?_cons_zero, Option.some.injEq] at ho
                              subst ho
                              exact ⟨rfl, J38_pure hJ (by decide) (by decide) (by decide) h0 rfl (fun hF _ => run_bd68 rfl (hF 5 (by decide) (hall ⟨5, .data⟩ (by simp) rfl)) (hF 9 (by decide) (hall ⟨9, .data⟩ (by simp) rfl)) w) rfl⟩
                            | 11, ho =>
                              simp only [List.getElem?_toArray, List.getElem?_cons_succ, List.getElem?_cons_zero, Option.some.injEq] at ho
                              subst ho
                              exact ⟨rfl, J38_new rfl hJ h0 (hall ⟨10, .data⟩ (by simp) rfl) rfl rfl⟩
                            | 12, ho =>
                              simp only [List.getElem?_toArray, List.getElem?_cons_succ, List.getElem?_cons_zero, Option.some.injEq] at ho
                              subst ho
                              exact ⟨rfl, J38_app rfl size68 hroom hsp hJ h0 (hall ⟨3, .data⟩ (by simp) rfl) (hall ⟨11, .data⟩ (by simp) rfl) rfl rfl⟩
                            | 13, ho =>
                              simp only [List.getElem?_toArray, List.getElem?_cons_succ, List.getElem?_cons_zero, Option.some.injEq] at ho
                              subst ho
                              exact ⟨rfl, J38_pure hJ (by decide) (by decide) (by decide) h0 rfl (fun hF _ => run_nc rfl (hF 0 (by decide) (hall ⟨0, .data⟩ (by simp) rfl)) w) rfl⟩
                            | 14, ho =>
                              simp only [List.getElem?_toArray, List.getElem?_cons_succ, List.getElem?_cons_zero, Option.some.injEq] at ho
                              subst ho
                              refine ⟨rfl, J38_store hst1 hst2 hJ h0 (fun i hi => ?_) rfl rfl⟩
                              by_cases e13 : i = 13
                              · subst e13; exact hall ⟨13, .data⟩ (by simp) rfl
                              · refine hall ⟨i, .phase⟩ ?_ rfl
                                have hi' := below13 (by omega : i < 13)
                                rcases hi' with rfl | rfl | rfl | rfl | rfl | rfl | rfl | rfl | rfl | rfl | rfl | rfl | rfl <;> simp
                            | i + 15, ho => simp at ho
                          · intro listed a w hJ hup
                            obtain ⟨hfr, rfl⟩ := J38_end hJ (hup 14 (by simp))
                            refine hMK _ _ (Met.intro (hJK _ _ ?_))
                            exact ⟨a.eval (.tmp 18), a.eval (.tmp 19), a.eval (.tmp 20), a.eval (.tmp 150), a.eval (.tmp 151), a.eval (.tmp 152), a.eval (.tmp 153), a.eval (.tmp 154), a.eval (.tmp 155), a.eval (.tmp 156), a.eval (.tmp 157), a.eval (.tmp 158), a.eval (.tmp 159), a.eval (.tmp 160), a.eval (.tmp 161), a.eval (.tmp 162), a.eval (.tmp 163), a.eval (.tmp 164), a.eval (.tmp 165), a.eval (.tmp 166), a.eval (.tmp 167), a.eval (.tmp 168), a.eval (.tmp 169), a.eval (.tmp 170), a.eval (.tmp 171), a.eval (.tmp 172), a.eval (.tmp 173), a.eval (.tmp 174), a.eval (.tmp 175), ⟨hfr.2.2 150 (.inl (by decide)), end38_state HS8.out HE8.out hnewL HQ.out hkey hlt HEI.out⟩, (fr38_eq hfr).trans rfl⟩
                        · have hf' : ((L j).fr == 0) = false := by simp [hf]
                          have HK : Hid (¬ keyI L G j < 2 * (G + 1)) := keyI_oth hf
                          have HF : Hid ((L j).fr ≠ 0) := hf
                          clear hf
                          go_wp2
                          go_meet
                          case rel =>
                            have hso : ∀ o, wr.Since wr.heap.size (wr.alloc o) := fun o => (World.Since.refl _ _).alloc (Nat.le_refl _) _
                            refine ⟨rfl, (HS7.out.step (hso _)).congrV fun q hq => (V5_same HK.out q hq).symm, E5, rowS HE7.out (hso _), fun i hi hf c hc => ?_⟩
                            by_cases e : i = j
                            · subst e; exact absurd hf HF.out
                            · exact HEI.out i (by omega) hf c hc
                      case rest =>
                        obtain ⟨rfl, hS9, E9, hE9, hEI9⟩ := hcut
                        have HS9 : Hid (S1 W0 wc bx bt bm bh bo k G T (V5 (keyI L G) wa.heap.size k (j + 1)) (othV L bt k)) := hS9
                        have HE9 : Hid (wc.rowIs wa.heap.size 68 (one (keyI L G) (2 * (G + 1)) k * 5) E9) := hE9
                        clear hS9 hE9
                        have HI9 : Hid (EntIs (keyI L G) bt k A C L E9 (j + 1)) := hEI9
                        clear hEI9
                        go_wp2
                        go_roundw
                        case rel => exact ⟨j + 1, E9, by omega, by go_num, HS9.out, HE9.out, HI9.out⟩
                        case measure => simp [intOf]; omega
                    · obtain rfl : j = k := by omega
                      have x0 := hS7.x.cell (i := 0) (by omega)
                      have x1 := hS7.x.cell (i := 1) (by omega)
                      have x2 := hS7.x.cell (i := 2) (by omega)
                      have x3 := hS7.x.cell (i := 3) (by omega)
                      simp only [xC, if_true, Nat.reduceEqDiff, if_false] at x0 x1 x2 x3
                      have hrow : wr.rowIs w.heap.size 54 4 (fun _ => .slice none 0 0) := HR.out.of_block (hS7.since.block _ hsz)
                      have r0 := hrow.cell (i := 0) (by omega)
                      have r1 := hrow.cell (i := 1) (by omega)
                      have r2 := hrow.cell (i := 2) (by omega)
                      have r3 := hrow.cell (i := 3) (by omega)
                      have rf := fun i => hrow.frozen i
                      clear hS7 hrow
                      go_wp2
                      refine bodyPost_ret (v := .agg #[.slice (some ⟨bt, 0, none⟩) j j, .slice (some ⟨bm, 0, none⟩) (G + 1) (G + 1), .slice (some ⟨bh, 0, none⟩) (G + 1) (G + 1), .slice (some ⟨bo, 0, none⟩) (G + 1) (G + 1)]) (by simp [results, Try.results13, go_sem, r0, r1, r2, r3]) rfl ⟨bt, bm, bh, bo, wa.heap.size, T, _, rfl, fin_of (g := xC bt bm bh bo j G) HS7.out HW0.out hsz HT.out (fun q hq => V5_win _ _ _ _) (.inr ⟨hnewL, HE7.out, fun i hi hf c hc => ⟨?_, HEI.out i hi hf c hc⟩⟩)⟩
                      have := pl_lt (key := keyI L G) hi (keyI_one HV.out hi hf)
                      omega
end Go.Proofs.Qxb6601175a.Idx
