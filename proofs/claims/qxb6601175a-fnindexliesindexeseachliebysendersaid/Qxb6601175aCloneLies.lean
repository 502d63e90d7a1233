/-
  zzCloneLies: the walk.
-/
import Derived.Test.Qxb6601175aLie
namespace Go.Proofs.Qxb6601175a.Idx
open Go.ChangeShapes Go.WideShapes Go.ChangeAt Go.RowKit

theorem nil24 (W : World) (a : Option Addr) (n c : Nat) : (binOp .eql 24 (.slice a n c) (.slice none 0 0)).run Try.prog W = .ok (.bool a.isNone) W := Lib.run_eql_slice_nil W 24 32 a n c 0 0 Try.underlying24
attribute [local go_sem] nil24

theorem info32 : (Try.prog.info? 32).map (fun i => (i.zero, i.size, i.bytes)) = some (some (.agg #[.slice none 0 0, .int .i64 0, .int .i64 0, .int .i64 0, .int .i64 0, .string ByteArray.empty, .bool false, .int .i64 0, .int .i64 0]), 9, 96) := by kernel_rfl

/-- zeros of a LieIn, a council.Lie -/
def zero9 : Array Value := #[.slice none 0 0, .int .i64 0, .int .i64 0, .int .i64 0, .int .i64 0, .string ByteArray.empty, .bool false, .int .i64 0, .int .i64 0]

/-- 'make' of n elements of some cells each -/
theorem make_many (t e : TypeId) (cs : Array Value) (z : Value) (size bytes : Nat) (ht : Try.prog.underlying t = some (.slice e)) (hinfo : (Try.prog.info? e).map (fun i => (i.zero, i.size, i.bytes)) = some (some z, size, bytes)) (hz : z.cells = cs)
    (n : Nat) (hb : bytes * n ≤ 281474976710656) (h63 : n ≤ 9223372036854775807) (w : World) :
    (Instr.makeSlice t (.int .i64 (n : Int)) (.int .i64 (n : Int))).run Try.prog w = .ok (.slice (some ⟨w.heap.size, 0, none⟩) n n) (w.alloc (.cells (madeCells cs (n * size)) e)) := by
  obtain ⟨i, hi, hzz⟩ := Option.map_eq_some_iff.1 hinfo
  simp only [Prod.mk.injEq] at hzz
  obtain ⟨h1, h2, h3⟩ := hzz
  have hb' : (i.bytes : Int) * (n : Int) ≤ 281474976710656 := by
    have h : ((i.bytes * n : Nat) : Int) ≤ 281474976710656 := by rw [h3]; omega
    rwa [Int.natCast_mul] at h
  have hr := run_make (P := Try.prog) w t e i z ht hi h1 .i64 .i64 n n (by omega) (Int.le_refl _) hb' (by omega)
  simp only [Int.toNat_natCast, h2, hz] at hr
  exact hr

/-- what make has laid is a row -/
theorem made_row (w : World) (cs : Array Value) (m : Nat) (t : TypeId) : ∃ g, (w.alloc (.cells (madeCells cs m) t)).rowIs w.heap.size t m g := by
  refine ⟨fun i => (madeCells cs m).getD i undef, ?_⟩
  have := World.rowIs_alloc w (madeCells cs m) t (fun i => (madeCells cs m).getD i undef) (fun i hi => by simp [hi])
  rwa [size_madeCells] at this

/-- a path that the call has cloned: a row of its own behind block B, or nil -/
def PathB (B : Nat) (w : World) (A : Option Addr) (l : Lie) : Prop :=
  (A = none ∧ l.n = 0) ∨ ∃ b, A = some ⟨b, 0, none⟩ ∧ B < b ∧ w.rowIs b 3 l.n (fun i => .int .i64 (l.f i))

theorem PathB.path {B : Nat} {w : World} {A : Option Addr} {l : Lie} (h : PathB B w A l) : PathR w A l := by
  rcases h with ⟨rfl, h0⟩ | ⟨b, rfl, _, hr⟩
  · exact ⟨fun _ => h0, fun a ha => by simp at ha⟩
  · refine ⟨fun e => by simp at e, fun a ha j hj => ⟨b, 0, ?_, ?_⟩⟩
    · simp at ha; exact ha.symm
    · rw [Nat.zero_add]; exact hr.cell hj

/-- the relation of the loop: k lies have been cloned -/
def Cl (w wr : World) (n : Nat) (L : Nat → Lie) (k : Nat) : Prop :=
  ∃ (g : Nat → Value) (A : Nat → Option Addr) (C : Nat → Nat), wr.rowIs w.heap.size 32 (n * 9) g ∧ (∀ i, i < k → ∀ c, c < 9 → g (i * 9 + c) = lieCell (.slice (A i) (L i).n (C i)) (L i) c)
    ∧ (∀ i, i < k → PathB w.heap.size wr (A i) (L i)) ∧ w.Since w.heap.size wr

theorem cl_start (w : World) (n : Nat) (L : Nat → Lie) : Cl w (w.alloc (.cells (madeCells zero9 (n * 9)) 32)) n L 0 := by
  obtain ⟨g, hg⟩ := made_row w zero9 (n * 9) 32
  exact ⟨g, fun _ => none, fun _ => 0, hg, fun i hi => absurd hi (by omega), fun i hi => absurd hi (by omega), (World.Since.refl _ _).alloc (Nat.le_refl _) _⟩

theorem cl_step {w wr w2 : World} {n : Nat} {L : Nat → Lie} {k : Nat} (h : Cl w wr n L k) (hk : k < n) (o : Obj) {A' : Option Addr} {C' : Nat} {a : Addr} {v : Value}
    (ha : a.block = wr.heap.size) (hs : (wr.alloc o).Since (wr.heap.size + 1) w2) (hp : PathB wr.heap.size w2 A' (L k)) :
    Cl w (set9 (w2.setCell a v) w.heap.size (k * 9) (lieCell (.slice A' (L k).n C') (L k))) n L (k + 1) := by
  obtain ⟨g, A, C, hg, hc, hP, hS⟩ := h
  have hB : w.heap.size < wr.heap.size := hg.lt
  have hb2 : ∀ b, b < wr.heap.size → (w2.setCell a v).heap[b]? = wr.heap[b]? := fun b hb => by
    rw [Go.Deep.blk_setCell_other _ _ _ _ (by omega), hs.block b (by omega)]
    exact Go.Deep.blk_alloc_lt _ _ _ hb
  refine ⟨fun j => if k * 9 ≤ j ∧ j < k * 9 + 9 then lieCell (.slice A' (L k).n C') (L k) (j - k * 9) else g j, fun i => if i = k then A' else A i, fun i => if i = k then C' else C i, set9_row (hg.of_block (hb2 _ hB)), ?_, ?_, ?_⟩
  · intro i hi c hc'
    by_cases e : i = k
    · subst e
      simp only [if_true]
      rw [if_pos (by omega)]
      congr 1
      omega
    · simp only [if_neg e]
      rw [if_neg (by omega)]
      exact hc i (by omega) c hc'
  · intro i hi
    by_cases e : i = k
    · subst e
      simp only [if_true]
      rcases hp with h0 | ⟨b, rfl, hb, hr⟩
      · exact .inl h0
      · exact .inr ⟨b, rfl, by omega, set9_other (hr.setOther (by omega) _) (by omega)⟩
    · simp only [if_neg e]
      rcases hP i (by omega) with h0 | ⟨b, hA, hb, hr⟩
      · exact .inl h0
      · exact .inr ⟨b, hA, hb, set9_other (hr.of_block (hb2 b hr.lt)) (by omega)⟩
  · refine set9_since ?_ (Nat.le_refl _)
    have h1 : wr.Since w.heap.size (wr.alloc o) := (World.Since.refl _ _).alloc (by omega) o
    have h2 : (wr.alloc o).Since w.heap.size w2 := ⟨hs.os, hs.tape, hs.output, hs.size, fun b hb => hs.block b (by omega)⟩
    exact ((hS.trans h1).trans h2).setCell (by omega) _

set_option maxRecDepth 100000 in
set_option maxHeartbeats 400000 in
theorem clies_nil (c : Nat) (w : World) :
    Calls Try.prog 12 #[.slice none 0 c] w fun e w' => e = .returned (.slice none 0 0) ∧ w' = w := by
  go_enter Try.func12, Try.ntmps12
  go_wp2
  go_ret
  exact ⟨rfl, rfl⟩

/-- zzCloneInts at a lie's path -/
theorem cpath (A : Option Addr) (C : Nat) (l : Lie) (w : World) (hn : l.n ≤ 1048576) (h : PathR w A l) :
    Calls Try.prog 10 #[.slice A l.n C] w fun e w' => ∃ A' C', e = .returned (.slice A' l.n C') ∧ w.Since w.heap.size w' ∧ ((A' = none ∧ l.n = 0) ∨ ∃ b, A' = some ⟨b, 0, none⟩ ∧ w.heap.size ≤ b ∧ w'.rowIs b 3 l.n (fun i => .int .i64 (l.f i))) := by
  cases A with
  | none =>
    have h0 := h.1 rfl
    rw [h0]
    refine (cints_nil C w).mono ?_
    rintro e w' ⟨rfl, rfl⟩
    exact ⟨none, 0, rfl, World.Since.refl _ _, .inl ⟨rfl, rfl⟩⟩
  | some a =>
    refine (cints_some a l.n C l.f w hn (h.2 a rfl)).mono ?_
    rintro e w' ⟨rfl, h1, h2, h3⟩
    exact ⟨some ⟨w.heap.size, 0, none⟩, l.n, rfl, h2, .inr ⟨_, rfl, Nat.le_refl _, h1⟩⟩

set_option maxRecDepth 100000 in
set_option maxHeartbeats 1000000 in
/-- zzCloneLies: not nil -/
theorem clies_some (a : Addr) (n c : Nat) (A : Nat → Option Addr) (C : Nat → Nat) (L : Nat → Lie) (w : World) (hn : n ≤ 1048576) (hl : ∀ i, i < n → (L i).n ≤ 1048576)
    (hL : 0 < n → ∃ b off, a = ⟨b, off, none⟩ ∧ LiesIn w b off n (fun i => .slice (A i) (L i).n (C i)) L) (hP : ∀ i, i < n → PathR w (A i) (L i)) :
    Calls Try.prog 12 #[.slice (some a) n c] w fun e w' => e = .returned (.slice (some ⟨w.heap.size, 0, none⟩) n n) ∧ Cl w w' n L n := by
  have hmk : ∀ W : World, (Instr.makeSlice 24 (.int .i64 (n : Int)) (.int .i64 (n : Int))).run Try.prog W = .ok (.slice (some ⟨W.heap.size, 0, none⟩) n n) (W.alloc (.cells (madeCells zero9 (n * 9)) 32)) :=
    fun W => make_many 24 32 zero9 _ 9 96 Try.underlying24 info32 rfl n (by omega) (by omega) W
  go_enter Try.func12, Try.ntmps12
  go_wp2
  go_loopw [4] (fun i wr => ∃ k : Nat, k ≤ n ∧ i = .int .i64 k ∧ Cl w wr n L k) (fun i _ => n - (intOf i).toNat)
  case atStart => exact ⟨0, Nat.zero_le _, rfl, cl_start w n L⟩
  case round =>
    obtain ⟨k, hk, rfl, hR⟩ := hrel
    by_cases hlt : k < n
    · obtain ⟨b, off, rfl, hLi⟩ := hL (by omega)
      have hPk := hP k hlt
      have hlk := hl k hlt
      obtain ⟨g, _, _, hg, _, _, hS⟩ := id hR
      have hB : w.heap.size < wr.heap.size := hg.lt
      have hbw : b < w.heap.size := World.block_lt_of_cell? w _ (hLi.nine hlt).1
      have hnine := (hLi.since hS hbw).nine hlt
      have hPr := hPk.since hS (Nat.le_refl _)
      have HR : Hid (Cl w wr n L k) := hR
      have HC : Hid (∀ o : Obj, Calls Try.prog 10 #[.slice (A k) (L k).n (C k)] (wr.alloc o) fun e w' => ∃ A' C', e = .returned (.slice A' (L k).n C') ∧ (wr.alloc o).Since (wr.alloc o).heap.size w' ∧ ((A' = none ∧ (L k).n = 0) ∨ ∃ b, A' = some ⟨b, 0, none⟩ ∧ (wr.alloc o).heap.size ≤ b ∧ w'.rowIs b 3 (L k).n (fun i => .int .i64 ((L k).f i)))) :=
        fun o => cpath _ _ _ _ hlk (hPr.since ((World.Since.refl _ _).alloc (Nat.le_refl _) o) (Nat.le_refl _))
      have HG : Hid (wr.rowIs w.heap.size 32 (n * 9) g) := hg
      clear hR hPk hPr hL hP hl hLi hS hg hmk
      obtain ⟨e0, e1, e2, e3, e4, e5, e6, e7, e8⟩ := hnine
      try (simp only at e0)
      generalize hlk' : L k = l at *
      generalize A k = Ak at *
      generalize C k = Ck at *
      go_wp2_with fail
      refine (HC.out _).mono ?_
      rintro e w2 ⟨A', C', rfl, hs, hp⟩
      have hrow : w2.rowIs w.heap.size 32 (n * 9) g := HG.out.of_block (by rw [hs.block _ (by simp; omega)]; exact Go.Deep.blk_alloc_lt _ _ _ hB)
      have d0 := hrow.cell (i := k * 9) (by omega)
      have d1 := hrow.cell (i := k * 9 + 1) (by omega)
      have d2 := hrow.cell (i := k * 9 + 2) (by omega)
      have d3 := hrow.cell (i := k * 9 + 3) (by omega)
      have d4 := hrow.cell (i := k * 9 + 4) (by omega)
      have d5 := hrow.cell (i := k * 9 + 5) (by omega)
      have d6 := hrow.cell (i := k * 9 + 6) (by omega)
      have d7 := hrow.cell (i := k * 9 + 7) (by omega)
      have d8 := hrow.cell (i := k * 9 + 8) (by omega)
      have hfr : ∀ i, w2.frozen? ⟨w.heap.size, i, none⟩ = false := fun i => hrow.frozen i
      have hbox : ∀ i, w2.cell? ⟨wr.heap.size, i, none⟩ = _ := fun i => hs.cell (a := ⟨wr.heap.size, i, none⟩) (by simp)
      have hbfr : ∀ i, w2.frozen? ⟨wr.heap.size, i, none⟩ = _ := fun i => hs.frozen (a := ⟨wr.heap.size, i, none⟩) (by simp)
      have hne : w.heap.size ≠ wr.heap.size := by omega
      have hne' : wr.heap.size ≠ w.heap.size := by omega
      have HS : Hid (World.Since _ _ _) := hs
      have HP : Hid (PathB wr.heap.size w2 A' l) := by
        rcases hp with h | ⟨b, h1, h2, h3⟩
        · exact .inl h
        · exact .inr ⟨b, h1, by simp at h2; omega, h3⟩
      clear hs hrow hp
      go_wp2
      go_roundw
      case rel =>
        refine ⟨k + 1, by omega, by go_num, ?_⟩
        have hst := cl_step (A' := A') (C' := C') (a := ⟨wr.heap.size, 0, none⟩) (v := .slice A' l.n C') HR.out hlt _ rfl (by have := HS.out; simpa using this) (by rw [hlk']; exact HP.out)
        rw [hlk'] at hst
        exact hst
      case measure => simp [intOf]; omega
    · obtain rfl : k = n := by omega
      have HD : Hid (Cl w wr k L k) := hR
      clear hR
      go_wp2
      go_ret
      exact ⟨rfl, HD.out⟩

theorem nil25 (W : World) (a : Option Addr) (n c : Nat) : (binOp .eql 25 (.slice a n c) (.slice none 0 0)).run Try.prog W = .ok (.bool a.isNone) W := Lib.run_eql_slice_nil W 25 30 a n c 0 0 Try.underlying25
attribute [local go_sem] nil25
theorem info30 : (Try.prog.info? 30).map (fun i => (i.zero, i.size, i.bytes)) = some (some (.agg #[.int .i64 0, .int .i64 0]), 2, 16) := by kernel_rfl

/-- the clone of the links: what it holds is of no matter -/
def Cp (w wr : World) (n : Nat) : Prop := ∃ g, wr.rowIs w.heap.size 30 (n * 2) g ∧ w.Since w.heap.size wr

set_option maxRecDepth 100000 in
set_option maxHeartbeats 400000 in
theorem cpairs_nil (c : Nat) (w : World) :
    Calls Try.prog 11 #[.slice none 0 c] w fun e w' => e = .returned (.slice none 0 0) ∧ w' = w := by
  go_enter Try.func11, Try.ntmps11
  go_wp2
  go_ret
  exact ⟨rfl, rfl⟩

set_option maxRecDepth 100000 in
set_option maxHeartbeats 400000 in
/-- zzClonePairs: not nil -/
theorem cpairs_some (a : Addr) (n c : Nat) (f : Nat → Int) (w : World) (hn : n ≤ 1048576) (hc : ∀ i, i < n → ∃ b off, a = ⟨b, off, none⟩ ∧ w.cell? ⟨b, off + i * 2, none⟩ = some (.int .i64 (f (i * 2))) ∧ w.cell? ⟨b, off + i * 2 + 1, none⟩ = some (.int .i64 (f (i * 2 + 1)))) :
    Calls Try.prog 11 #[.slice (some a) n c] w fun e w' => e = .returned (.slice (some ⟨w.heap.size, 0, none⟩) n n) ∧ w.Since w.heap.size w' := by
  have hmk : ∀ W : World, (Instr.makeSlice 25 (.int .i64 (n : Int)) (.int .i64 (n : Int))).run Try.prog W = .ok (.slice (some ⟨W.heap.size, 0, none⟩) n n) (W.alloc (.cells (madeCells #[.int .i64 0, .int .i64 0] (n * 2)) 30)) :=
    fun W => make_many 25 30 _ _ 2 16 Try.underlying25 info30 rfl n (by omega) (by omega) W
  go_enter Try.func11, Try.ntmps11
  go_wp2
  go_loopw [4] (fun i wr => ∃ k : Nat, k ≤ n ∧ i = .int .i64 k ∧ Cp w wr n) (fun i _ => n - (intOf i).toNat)
  case atStart =>
    obtain ⟨g, hg⟩ := made_row w #[.int .i64 0, .int .i64 0] (n * 2) 30
    exact ⟨0, Nat.zero_le _, rfl, g, hg, (World.Since.refl _ _).alloc (Nat.le_refl _) _⟩
  case round =>
    obtain ⟨k, hk, rfl, g, hg, hS⟩ := hrel
    by_cases hlt : k < n
    · obtain ⟨b, off, rfl, hc0, hc1⟩ := hc k hlt
      have hb : b < w.heap.size := World.block_lt_of_cell? w _ hc0
      have c0 := (hS.cell (a := ⟨b, off + k * 2, none⟩) (by exact hb)).trans hc0
      have c1 := (hS.cell (a := ⟨b, off + k * 2 + 1, none⟩) (by exact hb)).trans hc1
      have d0 := hg.cell (i := k * 2) (by omega)
      have d1 := hg.cell (i := k * 2 + 1) (by omega)
      have hf := fun i => hg.frozen i
      have HG : Hid (wr.rowIs w.heap.size 30 (n * 2) g) := hg
      have HS : Hid (w.Since w.heap.size wr) := hS
      clear hg hS hc hc0 hc1 hmk
      go_wp2
      go_roundw
      case rel => exact ⟨k + 1, by omega, by go_num, _, (HG.out.set _ _).set _ _, (HS.out.setCell (Nat.le_refl _) _).setCell (Nat.le_refl _) _⟩
      case measure => simp [intOf]; omega
    · have HS : Hid (w.Since w.heap.size wr) := hS
      clear hg hS hc
      go_wp2
      go_ret
      exact ⟨rfl, HS.out⟩
end Go.Proofs.Qxb6601175a.Idx
