/-
  The law's arguments as plain data; what the law knows behind IndexLies (Kn).
-/
import Derived.Test.Qxb6601175aIndex
import Derived.Test.Qxb6601175aCBytes
import Derived.Test.Qxb6601175aGet
import Derived.Test.Qxb6601175aRow44
import Derived.Deep.QuietTactic
import Derived.BigQuiet
import Derived.Lib.Builder
set_option linter.unusedVariables false
namespace Go.Proofs.Qxb6601175a.Idx
open Go.ChangeShapes Go.WideShapes Go.ChangeAt Go.RowKit

/-- a fact kept from the walk -/
theorem hid_of {p : Prop} (h : p) : Hid p := h

/-- the law's first argument, as plain data: all but what lies behind the slices -/
structure Cn where
  G : Int
  M : Int
  Cm : Int
  od : ByteArray
  vA : Option Addr
  vn : Nat
  vc : Nat
  K : Int
  oA : Option Addr
  on : Nat
  oc : Nat
  df : ByteArray
  R : Int
  tA : Option Addr
  tn : Nat
  tc : Nat
  lA : Option Addr
  ln : Nat
  lc : Nat
  kA : Option Addr
  kn : Nat
  kc : Nat
  P : Int

/-- its thirteen cells -/
def Cn.arr (c : Cn) : Array Value :=
  #[.int .i64 c.G, .int .i64 c.M, .int .i64 c.Cm, .string c.od, .slice c.vA c.vn c.vc, .int .i64 c.K, .slice c.oA c.on c.oc, .string c.df, .int .i64 c.R, .slice c.tA c.tn c.tc, .slice c.lA c.ln c.lc, .slice c.kA c.kn c.kc, .int .i64 c.P]

/-- what is known of the arguments in memory -/
structure Inp (w : World) (c : Cn) (O : Option Addr) (no : Nat) (sv so s : Nat → ByteArray) (ft fk : Nat → Int) (A : Nat → Option Addr) (C : Nat → Nat) (L : Nat → Lie) : Prop where
  hod : c.od.size ≤ 9223372036854775807
  hdf : c.df.size ≤ 9223372036854775807
  hvn : c.vn ≤ 9223372036854775807
  hon : c.on ≤ 9223372036854775807
  htn : c.tn ≤ 9223372036854775807
  hln : c.ln ≤ 9223372036854775807
  hkn : c.kn ≤ 9223372036854775807
  hno : no ≤ 9223372036854775807
  V : StrsR w c.vA c.vn sv
  Vs : ∀ i, i < c.vn → (sv i).size ≤ 9223372036854775807
  V0 : c.vA = none → c.vn = 0
  Os : StrsR w c.oA c.on so
  Oz : ∀ i, i < c.on → (so i).size ≤ 9223372036854775807
  O0 : c.oA = none → c.on = 0
  S : StrsR w O no s
  Ss : ∀ i, i < no → (s i).size ≤ 9223372036854775807
  S0 : O = none → no = 0
  T : ∀ i, i < c.tn → ∃ b off, c.tA = some ⟨b, off, none⟩ ∧ w.cell? ⟨b, off + i, none⟩ = some (.int .i64 (ft i))
  T0 : c.tA = none → c.tn = 0
  Kk : ∀ i, i < c.kn → ∃ b off, c.kA = some ⟨b, off, none⟩ ∧ w.cell? ⟨b, off + i * 2, none⟩ = some (.int .i64 (fk (i * 2))) ∧ w.cell? ⟨b, off + i * 2 + 1, none⟩ = some (.int .i64 (fk (i * 2 + 1)))
  K0 : c.kA = none → c.kn = 0
  Li : 0 < c.ln → ∃ b off, c.lA = some ⟨b, off, none⟩ ∧ LiesIn w b off c.ln (fun i => .slice (A i) (L i).n (C i)) L
  L0 : c.lA = none → c.ln = 0
  Ls : ∀ i, i < c.ln → (L i).n ≤ 9223372036854775807 ∧ (L i).od.size ≤ 9223372036854775807
  Lp : ∀ i, i < c.ln → PathR w (A i) (L i)

theorem Inp.since {w w' : World} {c : Cn} {O : Option Addr} {no : Nat} {sv so s : Nat → ByteArray} {ft fk : Nat → Int} {A : Nat → Option Addr} {C : Nat → Nat} {L : Nat → Lie} (h : Inp w c O no sv so s ft fk A C L) (hs : w.Since w.heap.size w') : Inp w' c O no sv so s ft fk A C L where
  hod := h.hod
  hdf := h.hdf
  hvn := h.hvn
  hon := h.hon
  htn := h.htn
  hln := h.hln
  hkn := h.hkn
  hno := h.hno
  V := h.V.since hs (Nat.le_refl _)
  Vs := h.Vs
  V0 := h.V0
  Os := h.Os.since hs (Nat.le_refl _)
  Oz := h.Oz
  O0 := h.O0
  S := h.S.since hs (Nat.le_refl _)
  Ss := h.Ss
  S0 := h.S0
  T := fun i hi => by
    obtain ⟨b, off, e, hc⟩ := h.T i hi
    exact ⟨b, off, e, cellS hs hc⟩
  T0 := h.T0
  Kk := fun i hi => by
    obtain ⟨b, off, e, hc, hd⟩ := h.Kk i hi
    exact ⟨b, off, e, cellS hs hc, cellS hs hd⟩
  K0 := h.K0
  Li := fun hl => by
    obtain ⟨b, off, e, hc⟩ := h.Li hl
    exact ⟨b, off, e, hc.since hs (World.block_lt_of_cell? w _ (hc.nine hl).1)⟩
  L0 := h.L0
  Ls := h.Ls
  Lp := fun i hi => (h.Lp i hi).since hs (Nat.le_refl _)

/-- the boxed argument -/
theorem box_row (w : World) (c : Cn) : (w.alloc (.cells c.arr 27)).rowIs w.heap.size 27 13 (fun i => c.arr.getD i undef) := by
  refine World.rowIs_alloc w c.arr 27 _ fun i hi => ?_
  have hi' : i < c.arr.size := hi
  simp [hi']

/-- the boxed argument's cells, as the walk asks for them -/
theorem box13 {w : World} {B : Nat} {c : Cn} (h : w.rowIs B 27 13 (fun i => c.arr.getD i undef)) :
    w.cell? ⟨B, 0, none⟩ = some (.int .i64 c.G) ∧ w.cell? ⟨B, 1, none⟩ = some (.int .i64 c.M) ∧ w.cell? ⟨B, 2, none⟩ = some (.int .i64 c.Cm) ∧ w.cell? ⟨B, 3, none⟩ = some (.string c.od) ∧ w.cell? ⟨B, 4, none⟩ = some (.slice c.vA c.vn c.vc) ∧ w.cell? ⟨B, 5, none⟩ = some (.int .i64 c.K) ∧ w.cell? ⟨B, 6, none⟩ = some (.slice c.oA c.on c.oc)
    ∧ w.cell? ⟨B, 7, none⟩ = some (.string c.df) ∧ w.cell? ⟨B, 8, none⟩ = some (.int .i64 c.R) ∧ w.cell? ⟨B, 9, none⟩ = some (.slice c.tA c.tn c.tc) ∧ w.cell? ⟨B, 10, none⟩ = some (.slice c.lA c.ln c.lc) ∧ w.cell? ⟨B, 11, none⟩ = some (.slice c.kA c.kn c.kc) ∧ w.cell? ⟨B, 12, none⟩ = some (.int .i64 c.P) :=
  ⟨h.cell (by omega), h.cell (by omega), h.cell (by omega), h.cell (by omega), h.cell (by omega), h.cell (by omega), h.cell (by omega), h.cell (by omega), h.cell (by omega), h.cell (by omega), h.cell (by omega), h.cell (by omega), h.cell (by omega)⟩

/-- a lie that the law takes -/
def Vd (G : Int) (l : Lie) : Prop := 0 ≤ l.fr ∧ l.fr ≤ G ∧ (l.fr = 0 → 0 ≤ sndI l.n l.f l.h0 l.h1 ∧ sndI l.n l.f l.h0 l.h1 ≤ G)

section
variable {w : World} {c : Cn} {O : Option Addr} {no : Nat} {sv so s : Nat → ByteArray} {ft fk : Nat → Int} {A : Nat → Option Addr} {C : Nat → Nat} {L : Nat → Lie}
/-- all lengths are at most 2^20 -/
def Bnd (c : Cn) (no : Nat) (L : Nat → Lie) : Prop := c.vn ≤ 1048576 ∧ c.on ≤ 1048576 ∧ c.tn ≤ 1048576 ∧ c.ln ≤ 1048576 ∧ c.kn ≤ 1048576 ∧ no ≤ 1048576 ∧ ∀ i, i < c.ln → (L i).n ≤ 1048576

theorem bytes_inp (h : Inp w c O no sv so s ft fk A C L) (co : Nat) : Calls Try.prog 6 #[.agg c.arr, .slice O no co] w fun e w' => (e = .returned (.bool false) ∨ (e = .returned (.bool true) ∧ Bnd c no L)) ∧ w.Since w.heap.size w' :=
  bytes_any c.G c.M c.Cm c.od c.vA c.vn c.vc c.K c.oA c.on c.oc c.df c.R c.tA c.tn c.tc c.lA c.ln c.lc c.kA c.kn c.kc c.P O no co w sv so s A C L h.hod h.hdf h.hvn h.hon h.htn h.hln h.hkn h.hno h.V h.Vs h.Os h.Oz h.S h.Ss h.Li h.Ls
theorem cbytes_inp (h : Inp w c O no sv so s ft fk A C L) (co : Nat) : Calls Try.prog 7 #[.agg c.arr, .slice O no co] w fun e w' => (∃ r : Int, e = .returned (.int .i64 r)) ∧ w.Since w.heap.size w' :=
  cbytes_any c.G c.M c.Cm c.od c.vA c.vn c.vc c.K c.oA c.on c.oc c.df c.R c.tA c.tn c.tc c.lA c.ln c.lc c.kA c.kn c.kc c.P O no co w sv so s A C L h.hod h.hdf h.hvn h.hon h.htn h.hln h.hkn h.hno h.V h.Vs h.Os h.Oz h.S h.Ss h.Li h.Ls
end

section
variable {W : World} {B : Nat} {c : Cn}
theorem box_set4 (h : W.rowIs B 27 13 (fun i => c.arr.getD i undef)) (A : Option Addr) (n k : Nat) : (W.setCell ⟨B, 4, none⟩ (.slice A n k)).rowIs B 27 13 (fun i => (Cn.arr { c with vA := A, vn := n, vc := k }).getD i undef) :=
  (h.set 4 _).congr fun j hj => by
    have : j = 0 ∨ j = 1 ∨ j = 2 ∨ j = 3 ∨ j = 4 ∨ j = 5 ∨ j = 6 ∨ j = 7 ∨ j = 8 ∨ j = 9 ∨ j = 10 ∨ j = 11 ∨ j = 12 := by omega
    rcases this with rfl | rfl | rfl | rfl | rfl | rfl | rfl | rfl | rfl | rfl | rfl | rfl | rfl <;> rfl
theorem box_set6 (h : W.rowIs B 27 13 (fun i => c.arr.getD i undef)) (A : Option Addr) (n k : Nat) : (W.setCell ⟨B, 6, none⟩ (.slice A n k)).rowIs B 27 13 (fun i => (Cn.arr { c with oA := A, on := n, oc := k }).getD i undef) :=
  (h.set 6 _).congr fun j hj => by
    have : j = 0 ∨ j = 1 ∨ j = 2 ∨ j = 3 ∨ j = 4 ∨ j = 5 ∨ j = 6 ∨ j = 7 ∨ j = 8 ∨ j = 9 ∨ j = 10 ∨ j = 11 ∨ j = 12 := by omega
    rcases this with rfl | rfl | rfl | rfl | rfl | rfl | rfl | rfl | rfl | rfl | rfl | rfl | rfl <;> rfl
theorem box_set9 (h : W.rowIs B 27 13 (fun i => c.arr.getD i undef)) (A : Option Addr) (n k : Nat) : (W.setCell ⟨B, 9, none⟩ (.slice A n k)).rowIs B 27 13 (fun i => (Cn.arr { c with tA := A, tn := n, tc := k }).getD i undef) :=
  (h.set 9 _).congr fun j hj => by
    have : j = 0 ∨ j = 1 ∨ j = 2 ∨ j = 3 ∨ j = 4 ∨ j = 5 ∨ j = 6 ∨ j = 7 ∨ j = 8 ∨ j = 9 ∨ j = 10 ∨ j = 11 ∨ j = 12 := by omega
    rcases this with rfl | rfl | rfl | rfl | rfl | rfl | rfl | rfl | rfl | rfl | rfl | rfl | rfl <;> rfl
theorem box_set11 (h : W.rowIs B 27 13 (fun i => c.arr.getD i undef)) (A : Option Addr) (n k : Nat) : (W.setCell ⟨B, 11, none⟩ (.slice A n k)).rowIs B 27 13 (fun i => (Cn.arr { c with kA := A, kn := n, kc := k }).getD i undef) :=
  (h.set 11 _).congr fun j hj => by
    have : j = 0 ∨ j = 1 ∨ j = 2 ∨ j = 3 ∨ j = 4 ∨ j = 5 ∨ j = 6 ∨ j = 7 ∨ j = 8 ∨ j = 9 ∨ j = 10 ∨ j = 11 ∨ j = 12 := by omega
    rcases this with rfl | rfl | rfl | rfl | rfl | rfl | rfl | rfl | rfl | rfl | rfl | rfl | rfl <;> rfl
theorem box_set10 (h : W.rowIs B 27 13 (fun i => c.arr.getD i undef)) (A : Option Addr) (n k : Nat) : (W.setCell ⟨B, 10, none⟩ (.slice A n k)).rowIs B 27 13 (fun i => (Cn.arr { c with lA := A, ln := n, lc := k }).getD i undef) :=
  (h.set 10 _).congr fun j hj => by
    have : j = 0 ∨ j = 1 ∨ j = 2 ∨ j = 3 ∨ j = 4 ∨ j = 5 ∨ j = 6 ∨ j = 7 ∨ j = 8 ∨ j = 9 ∨ j = 10 ∨ j = 11 ∨ j = 12 := by omega
    rcases this with rfl | rfl | rfl | rfl | rfl | rfl | rfl | rfl | rfl | rfl | rfl | rfl | rfl <;> rfl
end

/-- what is known behind IndexLies -/
structure Kn (W : World) (B n G : Nat) (lA : Option Addr) (lc : Nat) (A : Nat → Option Addr) (C : Nat → Nat) (L : Nat → Lie) (O : Option Addr) (no : Nat) (s : Nat → ByteArray) (bx bt bm bh bo bL : Nat) (T V : Nat → Value) : Prop where
  g : W.cell? ⟨B, 0, none⟩ = some (.int .i64 (G : Int))
  l : W.cell? ⟨B, 10, none⟩ = some (.slice lA n lc)
  lies : 0 < n → ∃ b, lA = some ⟨b, 0, none⟩ ∧ LiesIn W b 0 n (fun i => .slice (A i) (L i).n (C i)) L
  path : ∀ i, i < n → PathR W (A i) (L i)
  strs : StrsR W O no s
  x : W.rowIs bx 54 4 (xC bt bm bh bo n G)
  told : W.rowIs bt 59 (n * 5) T
  toldIs : ∀ i, i < n → ∀ c, c < 5 → T (i * 5 + c) = toldCell s no (L i) c
  msg : W.rowIs bm 69 (G + 1) (fun k => V k)
  hop : W.rowIs bh 69 (G + 1) (fun k => V (G + 1 + k))
  win : ∀ q, q < 2 * (G + 1) → V q = winV (keyI L G) n bL q
  oth : W.rowIs bo 65 (G + 1) (othV L bt n)
  ent : ∀ i, i < n → (L i).fr = 0 → ∀ c, c < 5 → W.cell? ⟨bL, pl (keyI L G) n i * 5 + c, none⟩ = some (mlCell bt i (A i) (C i) (L i) c)

section
variable {W W' : World} {B n G : Nat} {lA : Option Addr} {lc : Nat} {A : Nat → Option Addr} {C : Nat → Nat} {L : Nat → Lie} {O : Option Addr} {no : Nat} {s : Nat → ByteArray} {bx bt bm bh bo bL : Nat} {T V : Nat → Value}
theorem Kn.since (h : Kn W B n G lA lc A C L O no s bx bt bm bh bo bL T V) (hs : W.Since W.heap.size W') : Kn W' B n G lA lc A C L O no s bx bt bm bh bo bL T V where
  g := cellS hs h.g
  l := cellS hs h.l
  lies := fun h0 => by
    obtain ⟨b, e, hl⟩ := h.lies h0
    exact ⟨b, e, hl.since hs (World.block_lt_of_cell? W _ (hl.nine0 h0).1)⟩
  path := fun i hi => (h.path i hi).since hs (Nat.le_refl _)
  strs := h.strs.since hs (Nat.le_refl _)
  x := rowS h.x hs
  told := rowS h.told hs
  toldIs := h.toldIs
  msg := rowS h.msg hs
  hop := rowS h.hop hs
  win := h.win
  oth := rowS h.oth hs
  ent := fun i hi hf c hc => cellS hs (h.ent i hi hf c hc)

/-- the four cells of the LieIndex -/
theorem Kn.four (h : Kn W B n G lA lc A C L O no s bx bt bm bh bo bL T V) :
    W.cell? ⟨bx, 0, none⟩ = some (.slice (some ⟨bt, 0, none⟩) n n) ∧ W.cell? ⟨bx, 1, none⟩ = some (.slice (some ⟨bm, 0, none⟩) (G + 1) (G + 1)) ∧ W.cell? ⟨bx, 2, none⟩ = some (.slice (some ⟨bh, 0, none⟩) (G + 1) (G + 1)) ∧ W.cell? ⟨bx, 3, none⟩ = some (.slice (some ⟨bo, 0, none⟩) (G + 1) (G + 1)) :=
  ⟨h.x.cell (by omega), h.x.cell (by omega), h.x.cell (by omega), h.x.cell (by omega)⟩

/-- the five cells of Told i -/
theorem Kn.five (h : Kn W B n G lA lc A C L O no s bx bt bm bh bo bL T V) {i : Nat} (hi : i < n) :
    W.cell? ⟨bt, i * 5, none⟩ = some (.int .i64 (fidx s (L i).od no)) ∧ W.cell? ⟨bt, i * 5 + 1, none⟩ = some (.bool (L i).si) ∧ W.cell? ⟨bt, i * 5 + 2, none⟩ = some (.int .i64 (L i).st) ∧ W.cell? ⟨bt, i * 5 + 3, none⟩ = some (.int .i64 (no : Int)) ∧ W.cell? ⟨bt, i * 5 + 4, none⟩ = some (.int .u64 (IntKind.u64.wrap (L i).sd)) := by
  have e := h.toldIs i hi
  exact ⟨(h.told.cell (by omega)).trans (congrArg some (e 0 (by omega))), (h.told.cell (by omega)).trans (congrArg some (e 1 (by omega))), (h.told.cell (by omega)).trans (congrArg some (e 2 (by omega))), (h.told.cell (by omega)).trans (congrArg some (e 3 (by omega))), (h.told.cell (by omega)).trans (congrArg some (e 4 (by omega)))⟩
end

theorem lr_step2 {w wr : World} {n : Nat} {A : Nat → Option Addr} {C : Nat → Nat} {L : Nat → Lie} {k : Nat} (h : Lr w wr n A C L k) (hk : k < n) (o : Obj) :
    Lr w ((set9 wr w.heap.size (k * 9) (lieCell (.slice (A k) (L k).n (C k)) (L k))).alloc o) n A C L (k + 1) := by
  obtain ⟨g, hg, hc, hS⟩ := h
  have h1 := set9_since (o := k * 9) (g := lieCell (.slice (A k) (L k).n (C k)) (L k)) hS (Nat.le_refl _)
  refine ⟨fun j => if k * 9 ≤ j ∧ j < k * 9 + 9 then lieCell (.slice (A k) (L k).n (C k)) (L k) (j - k * 9) else g j, (set9_row hg).alloc o, ?_, h1.alloc h1.size o⟩
  intro i hi c hc'
  by_cases e : i = k
  · subst e
    simp only
    rw [if_pos (by omega)]
    congr 1
    omega
  · simp only
    rw [if_neg (by omega)]
    exact hc i (by omega) c hc'

theorem keepT {W w2 w6 : World} {a b c d e f g : Addr} {va vb vc vd ve vf vg : Value} (hs : W.Since W.heap.size w2)
    (h : w6.Since w6.heap.size W ∧ W.cell? a = some va ∧ W.cell? b = some vb ∧ W.cell? c = some vc ∧ W.cell? d = some vd ∧ W.cell? e = some ve ∧ W.cell? f = some vf ∧ W.cell? g = some vg) :
    w6.Since w6.heap.size w2 ∧ w2.cell? a = some va ∧ w2.cell? b = some vb ∧ w2.cell? c = some vc ∧ w2.cell? d = some vd ∧ w2.cell? e = some ve ∧ w2.cell? f = some vf ∧ w2.cell? g = some vg :=
  ⟨sinceT h.1 hs h.1.size, cellS hs h.2.1, cellS hs h.2.2.1, cellS hs h.2.2.2.1, cellS hs h.2.2.2.2.1, cellS hs h.2.2.2.2.2.1, cellS hs h.2.2.2.2.2.2.1, cellS hs h.2.2.2.2.2.2.2⟩

theorem new_cell (w : World) (a : Array Value) (t i : Nat) (v : Value) (h : a[i]? = some v) : (w.alloc (.cells a t)).cell? ⟨w.heap.size, i, none⟩ = some v := by
  have hi : i < a.size := (Array.getElem?_eq_some_iff.1 h).1
  have hr : (w.alloc (.cells a t)).rowIs w.heap.size t a.size (fun i => a.getD i undef) := by
    refine World.rowIs_alloc w a t _ fun i hi => ?_
    have hi' : i < a.size := hi
    simp [hi']
  rw [hr.cell hi]
  simp [h]

theorem two_new (w : World) (a a' : Array Value) (t t' m : Nat) : (∀ i v, a[i]? = some v → (((w.alloc (.cells a t)).alloc (.cells a' t')).drewN m).cell? ⟨w.heap.size, i, none⟩ = some v) ∧ (∀ i v, a'[i]? = some v → (((w.alloc (.cells a t)).alloc (.cells a' t')).drewN m).cell? ⟨w.heap.size + 1, i, none⟩ = some v) ∧ w.Since w.heap.size (((w.alloc (.cells a t)).alloc (.cells a' t')).drewN m) := by
  have hsz : (w.alloc (.cells a t)).heap.size = w.heap.size + 1 := by simp
  refine ⟨fun i v h => ?_, fun i v h => ?_, sinceN _ (((World.Since.refl _ _).alloc (Nat.le_refl _) _).alloc (by simp) _)⟩
  · have h1 := new_cell w a t i v h
    have h2 := cellS (w2 := ((w.alloc (.cells a t)).alloc (.cells a' t')).drewN m) (sinceN _ ((World.Since.refl _ _).alloc (Nat.le_refl _) _)) h1
    exact h2
  · have h1 := new_cell (w.alloc (.cells a t)) a' t' i v h
    rw [hsz] at h1
    exact cellS (w2 := ((w.alloc (.cells a t)).alloc (.cells a' t')).drewN m) (sinceN _ (World.Since.refl _ _)) h1

theorem neq65 (a : Addr) (W : World) : (binOp .neq 65 (.pointer (some a)) (.pointer (some a))).run Try.prog W = .ok (.bool false) W := by
  obtain ⟨j, hj, _⟩ := Option.map_eq_some_iff.1 info59
  exact Lib.run_neq_ptr_same W a Try.underlying65 hj
theorem eq65 (a : Addr) (W : World) : (Op.equalIn 10000 65 (.pointer (some a)) (.pointer (some a))).run Try.prog W = .ok true W := by
  obtain ⟨j, hj, _⟩ := Option.map_eq_some_iff.1 info59
  have h : ∀ d : Nat, (Op.equalIn (d + 1) 65 (.pointer (some a)) (.pointer (some a))).run Try.prog W = .ok true W := fun d => by
    simp [Op.equalIn, run_underlying Try.underlying65, sizeOf, typeInfo, hj, run_sameAddr_same]
  exact h 9999
theorem neq65n (W : World) : (binOp .neq 65 (.pointer none) (.pointer none)).run Try.prog W = .ok (.bool false) W := run_neq_pointer_nil W 65 none (by simp [Program.pointee, Try.underlying65])

/-- the law's own list of the last lies -/
def lastV (L : Nat → Lie) (j k : Nat) : Value :=
  match lastI (fun i => (L i).fr) (k : Int) j with
  | none => .int .i64 (-1)
  | some i => .int .i64 (i : Int)
theorem last_zero (L : Nat → Lie) : lastV L 0 = fun _ => .int .i64 (-1) := rfl
theorem last_same {L : Nat → Lie} {j : Nat} (h : (L j).fr = 0) : lastV L (j + 1) = lastV L j := by
  funext k
  unfold lastV
  simp only [lastI]
  rw [if_neg (by rw [h]; simp)]
theorem last_set {L : Nat → Lie} {j kf : Nat} (h : (L j).fr = kf) (h0 : kf ≠ 0) : (fun k => if k = kf then Value.int .i64 (j : Int) else lastV L j k) = lastV L (j + 1) := by
  funext k
  unfold lastV
  simp only [lastI, h]
  by_cases e : k = kf
  · subst e
    rw [if_pos rfl, if_pos (by omega)]
  · rw [if_neg e, if_neg (by omega)]
theorem last_none {L : Nat → Lie} {bt n k : Nat} (h : lastI (fun i => (L i).fr) (k : Int) n = none) : lastV L n k = .int .i64 (-1) ∧ othV L bt n k = .pointer none := by
  unfold lastV othV; rw [h]; exact ⟨rfl, rfl⟩
theorem last_some {L : Nat → Lie} {bt n k i : Nat} (h : lastI (fun i => (L i).fr) (k : Int) n = some i) : lastV L n k = .int .i64 (i : Int) ∧ othV L bt n k = .pointer (some ⟨bt, i * 5, none⟩) ∧ i < n := by
  refine ⟨?_, ?_, lastI_lt h⟩
  · unfold lastV; rw [h]
  · unfold othV; rw [h]

/-- the box of the LieIndex is laid -/
theorem kn_of {w4 w5 : World} {B n G : Nat} {lA : Option Addr} {lc : Nat} {A : Nat → Option Addr} {C : Nat → Nat} {L : Nat → Lie} {O : Option Addr} {no : Nat} {s : Nat → ByteArray} {bt bm bh bo bL : Nat} {T V : Nat → Value}
    (hg : w4.cell? ⟨B, 0, none⟩ = some (.int .i64 (G : Int))) (hl : w4.cell? ⟨B, 10, none⟩ = some (.slice lA n lc))
    (hlies : 0 < n → ∃ b, lA = some ⟨b, 0, none⟩ ∧ LiesIn w4 b 0 n (fun i => .slice (A i) (L i).n (C i)) L) (hp : ∀ i, i < n → PathR w4 (A i) (L i)) (hS : StrsR w4 O no s)
    (hF : Fin w4 w5 bt bm bh bo bL n G A C L s no T V) :
    Kn (w5.alloc (.cells #[.slice (some ⟨bt, 0, none⟩) n n, .slice (some ⟨bm, 0, none⟩) (G + 1) (G + 1), .slice (some ⟨bh, 0, none⟩) (G + 1) (G + 1), .slice (some ⟨bo, 0, none⟩) (G + 1) (G + 1)] 54)) B n G lA lc A C L O no s w5.heap.size bt bm bh bo bL T V := by
  have hs5 := hF.since
  have ha : ∀ o, w5.Since w5.heap.size (w5.alloc o) := fun o => (World.Since.refl _ _).alloc (Nat.le_refl _) o
  have hs : ∀ o, w4.Since w4.heap.size (w5.alloc o) := fun o => sinceT hs5 (ha o) hs5.size
  refine ⟨cellS (hs _) hg, cellS (hs _) hl, fun h0 => ?_, fun i hi => (hp i hi).since (hs _) (Nat.le_refl _), hS.since (hs _) (Nat.le_refl _), ?_, rowS hF.told (ha _), hF.toldIs, rowS hF.msg (ha _), rowS hF.hop (ha _), hF.win, rowS hF.oth (ha _), fun i hi hf c hc => cellS (ha _) (hF.ent i hi hf c hc)⟩
  · obtain ⟨b, e, hl⟩ := hlies h0
    exact ⟨b, e, hl.since (hs _) (World.block_lt_of_cell? w4 _ (hl.nine0 h0).1)⟩
  · refine World.rowIs_alloc w5 _ 54 _ fun i hi => ?_
    have : i = 0 ∨ i = 1 ∨ i = 2 ∨ i = 3 := by simp at hi; omega
    rcases this with rfl | rfl | rfl | rfl <;> rfl
end Go.Proofs.Qxb6601175a.Idx
