/-
  The rows of a LieIndex while IndexLies fills them.
-/
import Derived.Test.Qxb6601175aRegion1
import Derived.Test.Qxb6601175aSender
import Derived.Test.Qxb6601175aTold
import Derived.Test.Qxb6601175aCount
set_option linter.unusedVariables false
namespace Go.Proofs.Qxb6601175a.Idx
open Go.RowKit

/-- the four cells of the LieIndex -/
def xC (bt bm bh bo n G : Nat) (i : Nat) : Value :=
  if i = 0 then .slice (some ⟨bt, 0, none⟩) n n else if i = 1 then .slice (some ⟨bm, 0, none⟩) (G + 1) (G + 1) else if i = 2 then .slice (some ⟨bh, 0, none⟩) (G + 1) (G + 1) else .slice (some ⟨bo, 0, none⟩) (G + 1) (G + 1)

/-- the rows: what told, onMessage and onHop (as one row of windows), onOthers hold -/
structure S1 (W0 wr : World) (bx bt bm bh bo n G : Nat) (T V Oth : Nat → Value) : Prop where
  x : wr.rowIs bx 54 4 (xC bt bm bh bo n G)
  told : wr.rowIs bt 59 (n * 5) T
  msg : wr.rowIs bm 69 (G + 1) (fun k => V k)
  hop : wr.rowIs bh 69 (G + 1) (fun k => V (G + 1 + k))
  oth : wr.rowIs bo 65 (G + 1) Oth
  ne : bm ≠ bh
  nx : W0.heap.size ≤ bx
  nt : W0.heap.size ≤ bt
  nm : W0.heap.size ≤ bm
  nh : W0.heap.size ≤ bh
  no : W0.heap.size ≤ bo
  since : W0.Since W0.heap.size wr

section
variable {W0 wr w2 : World} {bx bt bm bh bo n G : Nat} {T V Oth : Nat → Value}

theorem S1.of_end {v : Value} (h : End1 W0 n G v wr) : ∃ bx bt bm bh bo T, v = .pointer (some ⟨bx, 0, none⟩) ∧ S1 W0 wr bx bt bm bh bo n G T (fun _ => .slice none 0 0) (fun _ => .pointer none) := by
  obtain ⟨bx, bt, bm, bh, bo, rfl, ⟨⟨g, h1⟩, h2, h3, h4, h5, h6⟩, hx, hs, hr⟩ := h
  exact ⟨bx, bt, bm, bh, bo, g, rfl, hr, h1, h2, h3, h4, h5, hx, h6.1, h6.2.1, h6.2.2.1, h6.2.2.2, hs⟩

theorem sinceT {a b c : World} {B : Nat} (h : a.Since B b) (k : b.Since b.heap.size c) (hB : B ≤ b.heap.size) : a.Since B c :=
  h.trans ⟨k.os, k.tape, k.output, k.size, fun j hj => k.block j (by omega)⟩

/-- what is made behind them leaves the rows -/
theorem S1.step (h : S1 W0 wr bx bt bm bh bo n G T V Oth) (hs : wr.Since wr.heap.size w2) : S1 W0 w2 bx bt bm bh bo n G T V Oth :=
  ⟨rowS h.x hs, rowS h.told hs, rowS h.msg hs, rowS h.hop hs, rowS h.oth hs, h.ne, h.nx, h.nt, h.nm, h.nh, h.no, sinceT h.since hs h.since.size⟩

/-- five cells written into a row from offset o on -/
def set5 (w : World) (b o : Nat) (g : Nat → Value) : World :=
  ((((w.setCell ⟨b, o, none⟩ (g 0)).setCell ⟨b, o + 1, none⟩ (g 1)).setCell ⟨b, o + 2, none⟩ (g 2)).setCell ⟨b, o + 3, none⟩ (g 3)).setCell ⟨b, o + 4, none⟩ (g 4)

theorem set5_row {w : World} {b t n o : Nat} {f g : Nat → Value} (h : w.rowIs b t n f) : (set5 w b o g).rowIs b t n (fun j => if o ≤ j ∧ j < o + 5 then g (j - o) else f j) := by
  unfold set5
  refine (((((h.set _ _).set _ _).set _ _).set _ _).set _ _).congr fun i _ => ?_
  by_cases c : o ≤ i ∧ i < o + 5
  · rw [if_pos c]
    have hc : i = o ∨ i = o + 1 ∨ i = o + 2 ∨ i = o + 3 ∨ i = o + 4 := by omega
    rcases hc with rfl | rfl | rfl | rfl | rfl <;> simp <;> congr 1 <;> omega
  · rw [if_neg c, if_neg (by omega), if_neg (by omega), if_neg (by omega), if_neg (by omega), if_neg (by omega)]
theorem set5_since {w0 w : World} {B b o : Nat} {g : Nat → Value} (h : w0.Since B w) (hb : B ≤ b) : w0.Since B (set5 w b o g) :=
  ((((h.setCell hb _).setCell hb _).setCell hb _).setCell hb _).setCell hb _
theorem set5_other {w : World} {b b' t n o : Nat} {f g : Nat → Value} (h : w.rowIs b' t n f) (hne : b' ≠ b) : (set5 w b o g).rowIs b' t n f :=
  ((((h.setOther hne _).setOther hne _).setOther hne _).setOther hne _).setOther hne _
theorem set5_size (w : World) (b o : Nat) (g : Nat → Value) : (set5 w b o g).heap.size = w.heap.size := by
  unfold set5; simp only [size_setCell]

/-- a Told is stored -/
theorem S1.told5 (h : S1 W0 wr bx bt bm bh bo n G T V Oth) (o : Nat) (g : Nat → Value) : S1 W0 (set5 wr bt o g) bx bt bm bh bo n G (fun j => if o ≤ j ∧ j < o + 5 then g (j - o) else T j) V Oth :=
  ⟨set5_other h.x (row_ne h.x h.told (by decide)), set5_row h.told, set5_other h.msg (row_ne h.msg h.told (by decide)), set5_other h.hop (row_ne h.hop h.told (by decide)), set5_other h.oth (row_ne h.oth h.told (by decide)),
    h.ne, h.nx, h.nt, h.nm, h.nh, h.no, set5_since h.since h.nt⟩

/-- a sender's lie on his other messages is stored -/
theorem S1.setOth (h : S1 W0 wr bx bt bm bh bo n G T V Oth) (k : Nat) (v : Value) : S1 W0 (wr.setCell ⟨bo, k, none⟩ v) bx bt bm bh bo n G T V (fun j => if j = k then v else Oth j) :=
  ⟨h.x.setOther (row_ne h.x h.oth (by decide)) _, h.told.setOther (row_ne h.told h.oth (by decide)) _, h.msg.setOther (row_ne h.msg h.oth (by decide)) _, h.hop.setOther (row_ne h.hop h.oth (by decide)) _, h.oth.set k v,
    h.ne, h.nx, h.nt, h.nm, h.nh, h.no, h.since.setCell h.no _⟩

/-- where window q's slice lies -/
def wB (bm bh G q : Nat) : Nat := if q < G + 1 then bm else bh
def wO (G q : Nat) : Nat := if q < G + 1 then q else q - (G + 1)

/-- a window's slice is stored -/
theorem S1.setV (h : S1 W0 wr bx bt bm bh bo n G T V Oth) (q : Nat) (hq : q < 2 * (G + 1)) (v : Value) : S1 W0 (wr.setCell ⟨wB bm bh G q, wO G q, none⟩ v) bx bt bm bh bo n G T (fun j => if j = q then v else V j) Oth := by
  unfold wB wO
  by_cases c : q < G + 1
  · rw [if_pos c, if_pos c]
    refine ⟨h.x.setOther (row_ne h.x h.msg (by decide)) _, h.told.setOther (row_ne h.told h.msg (by decide)) _, h.msg.set q v, ?_, h.oth.setOther (row_ne h.oth h.msg (by decide)) _,
      h.ne, h.nx, h.nt, h.nm, h.nh, h.no, h.since.setCell h.nm _⟩
    refine (h.hop.setOther (Ne.symm h.ne) _).congr fun i hi => ?_
    rw [if_neg (by omega)]
  · rw [if_neg c, if_neg c]
    refine ⟨h.x.setOther (row_ne h.x h.hop (by decide)) _, h.told.setOther (row_ne h.told h.hop (by decide)) _, ?_, ?_, h.oth.setOther (row_ne h.oth h.hop (by decide)) _,
      h.ne, h.nx, h.nt, h.nm, h.nh, h.no, h.since.setCell h.nh _⟩
    · refine (h.msg.setOther h.ne _).congr fun i hi => ?_
      rw [if_neg (by omega)]
    · refine (h.hop.set _ v).congr fun i hi => ?_
      by_cases e : i = q - (G + 1)
      · rw [if_pos e, if_pos (by omega)]
      · rw [if_neg e, if_neg (by omega)]

/-- window q's slice, read -/
theorem S1.getV (h : S1 W0 wr bx bt bm bh bo n G T V Oth) {q : Nat} (hq : q < 2 * (G + 1)) : wr.cell? ⟨wB bm bh G q, wO G q, none⟩ = some (V q) ∧ wr.frozen? ⟨wB bm bh G q, wO G q, none⟩ = false := by
  unfold wB wO
  by_cases c : q < G + 1
  · rw [if_pos c, if_pos c]; exact ⟨h.msg.cell c, h.msg.frozen q⟩
  · rw [if_neg c, if_neg c]
    refine ⟨(h.hop.cell (by omega)).trans ?_, h.hop.frozen _⟩
    congr 2
    omega
end

/-- the five cells of a Told -/
def toldCell (s : Nat → ByteArray) (no : Nat) (l : Lie) : Nat → Value
  | 0 => .int .i64 (fidx s l.od no)
  | 1 => .bool l.si
  | 2 => .int .i64 l.st
  | 3 => .int .i64 (no : Int)
  | _ => .int .u64 (IntKind.u64.wrap l.sd)

/-- the sender of lie i as a number -/
def sndN (l : Lie) : Nat := (sndI l.n l.f l.h0 l.h1).toNat
/-- the window that lie i goes into; none: 2 (G + 1) -/
def keyI (L : Nat → Lie) (G i : Nat) : Nat := if (L i).fr = 0 then (if hopB (L i).h0 (L i).h1 then G + 1 + sndN (L i) else sndN (L i)) else 2 * (G + 1)
/-- onOthers behind j lies -/
def othV (L : Nat → Lie) (bt j k : Nat) : Value :=
  match lastI (fun i => (L i).fr) (k : Int) j with
  | none => .pointer none
  | some i => .pointer (some ⟨bt, i * 5, none⟩)

/-- each lie's From, and its sender where it is on one message, is a general -/
structure Valid (L : Nat → Lie) (n G : Nat) : Prop where
  fr : ∀ i, i < n → 0 ≤ (L i).fr ∧ (L i).fr ≤ G
  sd : ∀ i, i < n → (L i).fr = 0 → 0 ≤ sndI (L i).n (L i).f (L i).h0 (L i).h1 ∧ sndI (L i).n (L i).f (L i).h0 (L i).h1 ≤ G

theorem keyI_one {L : Nat → Lie} {n G i : Nat} (hv : Valid L n G) (hi : i < n) (h : (L i).fr = 0) : keyI L G i < 2 * (G + 1) := by
  have := hv.sd i hi h
  unfold keyI sndN
  rw [if_pos h]
  split <;> omega
theorem one_zero {key : Nat → Nat} {N : Nat} : ∀ {n : Nat}, one key N n = 0 → ∀ i, i < n → ¬ key i < N
  | 0, _, i, hi => by omega
  | n + 1, h, i, hi => by
    simp only [one] at h
    by_cases e : i = n
    · subst e
      intro hc
      rw [if_pos hc] at h
      omega
    · exact one_zero (n := n) (by omega) i (by omega)
theorem keyI_oth {L : Nat → Lie} {G i : Nat} (h : (L i).fr ≠ 0) : ¬ keyI L G i < 2 * (G + 1) := by
  unfold keyI; rw [if_neg h]; omega

/-- the five cells of a MessageLie -/
def mlCell (bt i : Nat) (A : Option Addr) (C : Nat) (l : Lie) : Nat → Value
  | 0 => .slice A l.n C
  | 1 => .int .i64 l.dest
  | 2 => .int .i64 l.h0
  | 3 => .int .i64 l.h1
  | _ => .pointer (some ⟨bt, i * 5, none⟩)

/-- a window's slice at the end -/
def winV (key : Nat → Nat) (n bL : Nat) (q : Nat) : Value := if cnt key q n = 0 then .slice none 0 0 else .slice (some ⟨bL, stj key n q * 5, none⟩) (cnt key q n) (cnt key q n)

/-- what IndexLies hands back, and what lies behind it -/
structure Fin (w w' : World) (bt bm bh bo bL n G : Nat) (A : Nat → Option Addr) (C : Nat → Nat) (L : Nat → Lie) (s : Nat → ByteArray) (no : Nat) (T V : Nat → Value) : Prop where
  told : w'.rowIs bt 59 (n * 5) T
  toldIs : ∀ i, i < n → ∀ c, c < 5 → T (i * 5 + c) = toldCell s no (L i) c
  msg : w'.rowIs bm 69 (G + 1) (fun k => V k)
  hop : w'.rowIs bh 69 (G + 1) (fun k => V (G + 1 + k))
  win : ∀ q, q < 2 * (G + 1) → V q = winV (keyI L G) n bL q
  oth : w'.rowIs bo 65 (G + 1) (othV L bt n)
  ent : ∀ i, i < n → (L i).fr = 0 → ∀ c, c < 5 → w'.cell? ⟨bL, pl (keyI L G) n i * 5 + c, none⟩ = some (mlCell bt i (A i) (C i) (L i) c)
  since : w.Since w.heap.size w'

/-- four cells of the result -/
def set4 (w : World) (b : Nat) (g : Nat → Value) : World := (((w.setCell ⟨b, 0, none⟩ (g 0)).setCell ⟨b, 1, none⟩ (g 1)).setCell ⟨b, 2, none⟩ (g 2)).setCell ⟨b, 3, none⟩ (g 3)
theorem set4_other {w : World} {b b' t n : Nat} {f g : Nat → Value} (h : w.rowIs b' t n f) (hne : b' ≠ b) : (set4 w b g).rowIs b' t n f :=
  (((h.setOther hne _).setOther hne _).setOther hne _).setOther hne _
theorem set4_since {w0 w : World} {B b : Nat} {g : Nat → Value} (h : w0.Since B w) (hb : B ≤ b) : w0.Since B (set4 w b g) :=
  (((h.setCell hb _).setCell hb _).setCell hb _).setCell hb _

/-- the result is laid -/
theorem fin_of {w W0 wr : World} {bx bt bm bh bo n G bL mL : Nat} {T V E : Nat → Value} {A : Nat → Option Addr} {C : Nat → Nat} {L : Nat → Lie} {s : Nat → ByteArray} {no : Nat} (h : S1 W0 wr bx bt bm bh bo n G T V (othV L bt n)) (hw : w.Since w.heap.size W0) (hlt : w.heap.size < W0.heap.size)
    (hT : ∀ i, i < n → ∀ c, c < 5 → T (i * 5 + c) = toldCell s no (L i) c) (hV : ∀ q, q < 2 * (G + 1) → V q = winV (keyI L G) n bL q)
    (hE : (∀ i, i < n → (L i).fr ≠ 0) ∨ (W0.heap.size ≤ bL ∧ wr.rowIs bL 68 mL E ∧ ∀ i, i < n → (L i).fr = 0 → ∀ c, c < 5 → pl (keyI L G) n i * 5 + c < mL ∧ E (pl (keyI L G) n i * 5 + c) = mlCell bt i (A i) (C i) (L i) c)) (g : Nat → Value) :
    Fin w (set4 wr w.heap.size g) bt bm bh bo bL n G A C L s no T V := by
  have n1 := h.nt
  have n2 := h.nm
  have n3 := h.nh
  have n4 := h.no
  refine ⟨set4_other h.told (by omega), hT, set4_other h.msg (by omega), set4_other h.hop (by omega), hV, set4_other h.oth (by omega), ?_, ?_⟩
  · intro i hi hf c hc
    rcases hE with hE | ⟨e1, e2, e3⟩
    · exact absurd hf (hE i hi)
    · obtain ⟨p1, p2⟩ := e3 i hi hf c hc
      rw [(set4_other e2 (by omega)).cell p1, p2]
  · exact set4_since (hw.trans ⟨h.since.os, h.since.tape, h.since.output, h.since.size, fun k hk => h.since.block k (by omega)⟩) (Nat.le_refl _)

/-- where ofSender points -/
theorem key_at {L : Nat → Lie} {n G i : Nat} (bm bh : Nat) (hv : Valid L n G) (hi : i < n) (h : (L i).fr = 0) :
    (if hopB (L i).h0 (L i).h1 then bh else bm) = wB bm bh G (keyI L G i) ∧ sndN (L i) = wO G (keyI L G i) ∧ sndN (L i) ≤ G ∧ sndI (L i).n (L i).f (L i).h0 (L i).h1 = (sndN (L i) : Nat) := by
  have := hv.sd i hi h
  have hN : sndI (L i).n (L i).f (L i).h0 (L i).h1 = (sndN (L i) : Nat) := by unfold sndN; omega
  have hG : sndN (L i) ≤ G := by omega
  refine ⟨?_, ?_, hG, hN⟩
  · unfold wB keyI
    rw [if_pos h]
    split
    · rw [if_neg (by omega)]
    · rw [if_pos (by omega)]
  · unfold wO keyI
    rw [if_pos h]
    split
    · rw [if_neg (by omega)]; omega
    · rw [if_pos (by omega)]
end Go.Proofs.Qxb6601175a.Idx
