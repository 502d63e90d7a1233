/-
  The law's arguments, opened: from 'it reads as data' to cells.
-/
import Derived.Test.Qxb6601175aFirst
import Derived.OpenShut
import Derived.Deep.Slices
set_option linter.unusedVariables false
namespace Go.Proofs.Qxb6601175a.Idx
open Go.ChangeShapes Go.WideShapes Go.ChangeAt Go.RowKit

theorem cells3 : Try.prog.cellsOf 3 = 1 := by kernel_rfl
theorem cells2 : Try.prog.cellsOf 2 = 1 := by kernel_rfl
theorem cells4 : Try.prog.cellsOf 4 = 1 := by kernel_rfl
theorem cells9 : Try.prog.cellsOf 9 = 1 := by kernel_rfl
theorem cells22 : Try.prog.cellsOf 22 = 1 := by kernel_rfl
theorem cells23 : Try.prog.cellsOf 23 = 1 := by kernel_rfl
theorem cells24 : Try.prog.cellsOf 24 = 1 := by kernel_rfl
theorem cells25 : Try.prog.cellsOf 25 = 1 := by kernel_rfl
theorem cells27 : Try.prog.cellsOf 27 = 13 := by kernel_rfl
theorem cells30 : Try.prog.cellsOf 30 = 2 := by kernel_rfl
theorem cells32 : Try.prog.cellsOf 32 = 9 := by kernel_rfl

theorem max_is : maxLen = 9223372036854775807 := by decide

section
variable {H : Type} {enc : TypeId × Value → H} {P : Program} {w : World} {base : Nat} {spare : Nat → Bool} {held : Bool} {fuel : Nat} {t : TypeId} {cs : List Value} {x : DataW H × List MemPlace}

/-- a field of a struct that is read -/
theorem fld {fs : Array Field} (ht : P.underlying t = some (.struct fs)) (h : DataW.trod enc P w base spare held fuel t cs = some x) (i t' off c : Nat) (hf : (fs[i]?).map (fun f => (f.type, f.offset)) = some (t', off)) (hc : P.cellsOf t' = c) :
    ∃ n y, DataW.trod enc P w base spare held n t' ((cs.drop off).take c) = some y := by
  obtain ⟨xs, n, -, -, -, hl, hx⟩ := DataW.trod_struct ht h
  obtain ⟨f, hf1, hf2⟩ := Option.map_eq_some_iff.1 hf
  simp only [Prod.mk.injEq] at hf2
  obtain ⟨rfl, rfl⟩ := hf2
  have h1 := hx i f hf1
  rw [hc] at h1
  have hi : i < xs.length := by
    rw [hl]
    exact (Array.getElem?_eq_some_iff.1 hf1).1
  exact ⟨n, xs[i], by rw [h1, List.getElem?_eq_getElem hi]⟩

theorem fld_len {fs : Array Field} (ht : P.underlying t = some (.struct fs)) (h : DataW.trod enc P w base spare held fuel t cs = some x) : cs.length = P.cellsOf t := by
  obtain ⟨xs, n, -, -, hl, -, -⟩ := DataW.trod_struct ht h
  exact hl

/-- an element of an array that is read -/
theorem elt {m : Nat} {e : TypeId} (ht : P.underlying t = some (.array m e)) (h : DataW.trod enc P w base spare held fuel t cs = some x) (i : Nat) (hi : i < m) (hc : P.cellsOf e = 1) :
    ∃ n y, DataW.trod enc P w base spare held n e ((cs.drop i).take 1) = some y := by
  obtain ⟨xs, n, -, -, -, hl, hx⟩ := DataW.trod_array ht h
  have h1 := hx i hi
  rw [hc, Nat.mul_one] at h1
  have hi' : i < xs.length := by omega
  exact ⟨n, xs[i], by rw [h1, List.getElem?_eq_getElem hi']⟩
theorem elt_len {m : Nat} {e : TypeId} (ht : P.underlying t = some (.array m e)) (h : DataW.trod enc P w base spare held fuel t cs = some x) : cs.length = P.cellsOf t := by
  obtain ⟨xs, n, -, -, hl, -, -⟩ := DataW.trod_array ht h
  exact hl

/-- cells at a plain address -/
theorem plain_at {a : Addr} {n : Nat} {g : Nat → Value} (h : ∀ i, i < n → w.cell? (a.add i) = some (g i)) (h0 : 0 < n) : ∃ b off, a = ⟨b, off, none⟩ ∧ ∀ i, i < n → w.cell? ⟨b, off + i, none⟩ = some (g i) := by
  obtain ⟨b, off, spot⟩ := a
  have hspot : spot = none := by simpa [Addr.add] using World.cell?_spot (h 0 h0)
  subst hspot
  exact ⟨b, off, rfl, fun j hj => by rw [← add_plain]; exact h j hj⟩
end

def intV : Value → Int | .int _ n => n | _ => 0
def strV : Value → ByteArray | .string s => s | _ => ByteArray.empty
def boolV : Value → Bool | .bool b => b | _ => false

section
variable {H : Type} {enc : TypeId × Value → H} {w : World} {spare : Nat → Bool} {held : Bool} {fuel : Nat} {cs : List Value} {x : DataW H × List MemPlace}

theorem r_int {v : Value} (h : DataW.trod enc Try.prog w 0 spare held fuel 3 [v] = some x) : v = .int .i64 (intV v) := by
  obtain ⟨n, h1, -, -⟩ := DataW.trod_int Try.underlying3 h
  simp only [List.cons.injEq, and_true] at h1
  rw [h1]; rfl
theorem r_int2 {v : Value} (h : DataW.trod enc Try.prog w 0 spare held fuel 2 [v] = some x) : v = .int .i64 (intV v) := by
  obtain ⟨n, h1, -, -⟩ := DataW.trod_int Try.underlying2 h
  simp only [List.cons.injEq, and_true] at h1
  rw [h1]; rfl
theorem r_bool {v : Value} (h : DataW.trod enc Try.prog w 0 spare held fuel 4 [v] = some x) : v = .bool (boolV v) := by
  obtain ⟨n, h1, -⟩ := DataW.trod_bool Try.underlying4 h
  simp only [List.cons.injEq, and_true] at h1
  rw [h1]; rfl
theorem r_str {v : Value} (h : DataW.trod enc Try.prog w 0 spare held fuel 9 [v] = some x) : v = .string (strV v) ∧ (strV v).size ≤ 9223372036854775807 := by
  obtain ⟨s, h1, -, hs⟩ := DataW.trod_string Try.underlying9 h
  simp only [List.cons.injEq, and_true] at h1
  rw [max_is] at hs
  rw [h1]; exact ⟨rfl, hs⟩

/-- a slice of integers -/
theorem r_ints {v : Value} (h : DataW.trod enc Try.prog w 0 spare held fuel 23 [v] = some x) :
    ∃ (A : Option Addr) (n c : Nat) (f : Nat → Int), v = .slice A n c ∧ (A = none → n = 0) ∧ n ≤ 9223372036854775807 ∧ ∀ i, i < n → ∃ b off, A = some ⟨b, off, none⟩ ∧ w.cell? ⟨b, off + i, none⟩ = some (.int .i64 (f i)) := by
  rcases Deep.open_slice1 Try.underlying23 cells3 h with ⟨h1, -⟩ | ⟨a, len, cap, m, n, V, D, Pl, h1, hb, hl, hm, hmm, -, hV⟩
  · simp only [List.cons.injEq, and_true] at h1
    exact ⟨none, 0, 0, fun _ => 0, h1, fun _ => rfl, by omega, fun i hi => absurd hi (by omega)⟩
  · simp only [List.cons.injEq, and_true] at h1
    rw [max_is] at hm
    have hle : len ≤ m := by rw [hmm]; split <;> omega
    refine ⟨some a, len, cap, fun i => intV (V i), h1, (fun e => by cases e), by omega, fun i hi => ?_⟩
    obtain ⟨b, off, e, hc⟩ := plain_at (w := w) (a := a) (n := m) (g := V) (fun i hi => (hV i hi).1) (by omega)
    refine ⟨b, off, by rw [e], ?_⟩
    rw [hc i (by omega), ← r_int (hV i (by omega)).2]

/-- a slice of strings -/
theorem r_strs {v : Value} (h : DataW.trod enc Try.prog w 0 spare held fuel 22 [v] = some x) :
    ∃ (A : Option Addr) (n c : Nat) (s : Nat → ByteArray), v = .slice A n c ∧ (A = none → n = 0) ∧ n ≤ 9223372036854775807 ∧ StrsR w A n s ∧ ∀ i, i < n → (s i).size ≤ 9223372036854775807 := by
  rcases Deep.open_slice1 Try.underlying22 cells9 h with ⟨h1, -⟩ | ⟨a, len, cap, m, n, V, D, Pl, h1, hb, hl, hm, hmm, -, hV⟩
  · simp only [List.cons.injEq, and_true] at h1
    exact ⟨none, 0, 0, fun _ => ByteArray.empty, h1, fun _ => rfl, by omega, fun i hi => absurd hi (by omega), fun i hi => absurd hi (by omega)⟩
  · simp only [List.cons.injEq, and_true] at h1
    rw [max_is] at hm
    have hle : len ≤ m := by rw [hmm]; split <;> omega
    refine ⟨some a, len, cap, fun i => strV (V i), h1, (fun e => by cases e), by omega, fun i hi => ?_, fun i hi => (r_str (hV i (by omega)).2).2⟩
    obtain ⟨b, off, e, hc⟩ := plain_at (w := w) (a := a) (n := m) (g := V) (fun i hi => (hV i hi).1) (by omega)
    refine ⟨b, off, by rw [e], ?_⟩
    rw [hc i (by omega), ← (r_str (hV i (by omega)).2).1]

/-- the cells of elements of several cells, at a plain address -/
theorem rows_at {a : Addr} {k n : Nat} {R : Nat → List Value} (hk : 0 < k) (h : ∀ i, i < n → w.cells? 0 (a.add (i * k)) k = some (R i)) (h0 : 0 < n) :
    ∃ b off, a = ⟨b, off, none⟩ ∧ ∀ i, i < n → ∀ c, c < k → w.cell? ⟨b, off + i * k + c, none⟩ = (R i)[c]? := by
  obtain ⟨b, off, spot⟩ := a
  have hspot : spot = none := by
    obtain ⟨-, hl, hc⟩ := World.cells?_some (h 0 h0)
    have h1 := hc 0 hk
    have h2 : (R 0)[0]? = some ((R 0)[0]'(by omega)) := List.getElem?_eq_getElem (by omega)
    rw [h2] at h1
    simpa [Addr.add] using World.cell?_spot h1
  subst hspot
  refine ⟨b, off, rfl, fun i hi c hc => ?_⟩
  obtain ⟨-, hl, hcc⟩ := World.cells?_some (h i hi)
  have h1 := hcc c hc
  rw [Deep.add_add, add_plain] at h1
  rw [Nat.add_assoc]
  exact h1

/-- a slice of pairs of integers -/
theorem r_pairs {v : Value} (h : DataW.trod enc Try.prog w 0 spare held fuel 25 [v] = some x) :
    ∃ (A : Option Addr) (n c : Nat) (f : Nat → Int), v = .slice A n c ∧ (A = none → n = 0) ∧ n ≤ 9223372036854775807 ∧ ∀ i, i < n → ∃ b off, A = some ⟨b, off, none⟩ ∧ w.cell? ⟨b, off + i * 2, none⟩ = some (.int .i64 (f (i * 2))) ∧ w.cell? ⟨b, off + i * 2 + 1, none⟩ = some (.int .i64 (f (i * 2 + 1))) := by
  rcases Deep.open_slice Try.underlying25 h with ⟨h1, -⟩ | ⟨a, len, cap, m, n, D, Pl, h1, hb, hl, hm, hmm, -, hV⟩
  · simp only [List.cons.injEq, and_true] at h1
    exact ⟨none, 0, 0, fun _ => 0, h1, fun _ => rfl, by omega, fun i hi => absurd hi (by omega)⟩
  · simp only [List.cons.injEq, and_true] at h1
    rw [max_is] at hm
    rw [cells30] at hV
    have hle : len ≤ m := by rw [hmm]; split <;> omega
    obtain ⟨R, hR⟩ := Deep.choose_lt hV
    refine ⟨some a, len, cap, fun j => intV (((w.cell? ⟨a.block, a.off + j, none⟩)).getD undef), h1, (fun e => by cases e), by omega, fun i hi => ?_⟩
    obtain ⟨b, off, rfl, hc⟩ := rows_at (w := w) (n := m) (k := 2) (R := R) (by omega) (fun i hi => (hR i hi).1) (by omega)
    refine ⟨b, off, rfl, ?_⟩
    obtain ⟨q1, q2⟩ := hR i (by omega)
    have hlen := elt_len Try.underlying30 q2
    rw [cells30] at hlen
    have c0 := hc i (by omega) 0 (by omega)
    have c1 := hc i (by omega) 1 (by omega)
    match hRi : R i, hlen with
    | [u0, u1], _ =>
      rw [hRi] at q2 c0 c1
      obtain ⟨n0, y0, e0⟩ := elt Try.underlying30 q2 0 (by omega) cells3
      obtain ⟨n1, y1, e1⟩ := elt Try.underlying30 q2 1 (by omega) cells3
      have g0 := r_int (v := u0) e0
      have g1 := r_int (v := u1) e1
      simp only [List.getElem?_cons_zero, List.getElem?_cons_succ, Nat.add_zero] at c0 c1
      have d0 : w.cell? ⟨b, off + i * 2 + 1, none⟩ = w.cell? ⟨b, off + (i * 2 + 1), none⟩ := by rw [Nat.add_assoc]
      simp only
      rw [← d0, c0, c1]
      exact ⟨congrArg some g0, congrArg some g1⟩

/-- a lie -/
theorem r_lie (h : DataW.trod enc Try.prog w 0 spare held fuel 32 cs = some x) :
    ∃ (A : Option Addr) (C : Nat) (l : Lie), (∀ c, c < 9 → cs[c]? = some (lieCell (.slice A l.n C) l c)) ∧ PathR w A l ∧ l.n ≤ 9223372036854775807 ∧ l.od.size ≤ 9223372036854775807 := by
  have hlen := fld_len Try.underlying32 h
  rw [cells32] at hlen
  match hcs : cs, hlen with
  | [u0, u1, u2, u3, u4, u5, u6, u7, u8], _ =>
    obtain ⟨n0, y0, e0⟩ := fld Try.underlying32 h 0 23 0 1 rfl cells23
    obtain ⟨n1, y1, e1⟩ := fld Try.underlying32 h 1 3 1 1 rfl cells3
    obtain ⟨n2, y2, e2⟩ := fld Try.underlying32 h 2 30 2 2 rfl cells30
    obtain ⟨n3, y3, e3⟩ := fld Try.underlying32 h 3 3 4 1 rfl cells3
    obtain ⟨n4, y4, e4⟩ := fld Try.underlying32 h 4 9 5 1 rfl cells9
    obtain ⟨n5, y5, e5⟩ := fld Try.underlying32 h 5 4 6 1 rfl cells4
    obtain ⟨n6, y6, e6⟩ := fld Try.underlying32 h 6 3 7 1 rfl cells3
    obtain ⟨n7, y7, e7⟩ := fld Try.underlying32 h 7 2 8 1 rfl cells2
    obtain ⟨m0, z0, k0⟩ := elt Try.underlying30 e2 0 (by omega) cells3
    obtain ⟨m1, z1, k1⟩ := elt Try.underlying30 e2 1 (by omega) cells3
    obtain ⟨A, n, c, f, g0, hA, hn, hf⟩ := r_ints (v := u0) e0
    have g1 := r_int (v := u1) e1
    have g2 := r_int (v := u2) k0
    have g3 := r_int (v := u3) k1
    have g4 := r_int (v := u4) e3
    have g5 := r_str (v := u5) e4
    have g6 := r_bool (v := u6) e5
    have g7 := r_int (v := u7) e6
    have g8 := r_int2 (v := u8) e7
    refine ⟨A, c, ⟨n, f, intV u1, intV u2, intV u3, intV u4, strV u5, boolV u6, intV u7, intV u8⟩, fun i hi => ?_, ⟨hA, fun a ha j hj => ?_⟩, hn, g5.2⟩
    · have : i = 0 ∨ i = 1 ∨ i = 2 ∨ i = 3 ∨ i = 4 ∨ i = 5 ∨ i = 6 ∨ i = 7 ∨ i = 8 := by omega
      rcases this with rfl | rfl | rfl | rfl | rfl | rfl | rfl | rfl | rfl
      · exact congrArg some g0
      · exact congrArg some g1
      · exact congrArg some g2
      · exact congrArg some g3
      · exact congrArg some g4
      · exact congrArg some g5.1
      · exact congrArg some g6
      · exact congrArg some g7
      · exact congrArg some g8
    · obtain ⟨b, off, e, hc⟩ := hf j hj
      rw [ha] at e
      exact ⟨b, off, Option.some.inj e, hc⟩

/-- a slice of lies -/
theorem r_lies {v : Value} (h : DataW.trod enc Try.prog w 0 spare held fuel 24 [v] = some x) :
    ∃ (a : Option Addr) (n c : Nat) (A : Nat → Option Addr) (C : Nat → Nat) (L : Nat → Lie), v = .slice a n c ∧ (a = none → n = 0) ∧ n ≤ 9223372036854775807
      ∧ (0 < n → ∃ b off, a = some ⟨b, off, none⟩ ∧ LiesIn w b off n (fun i => .slice (A i) (L i).n (C i)) L)
      ∧ (∀ i, i < n → (L i).n ≤ 9223372036854775807 ∧ (L i).od.size ≤ 9223372036854775807) ∧ ∀ i, i < n → PathR w (A i) (L i) := by
  rcases Deep.open_slice Try.underlying24 h with ⟨h1, -⟩ | ⟨a, len, cap, m, n, D, Pl, h1, hb, hl, hm, hmm, -, hV⟩
  · simp only [List.cons.injEq, and_true] at h1
    exact ⟨none, 0, 0, fun _ => none, fun _ => 0, fun _ => ⟨0, fun _ => 0, 0, 0, 0, 0, ByteArray.empty, false, 0, 0⟩, h1, fun _ => rfl, by omega, fun h0 => absurd h0 (by omega), fun i hi => absurd hi (by omega), fun i hi => absurd hi (by omega)⟩
  · simp only [List.cons.injEq, and_true] at h1
    rw [max_is] at hm
    rw [cells32] at hV
    have hle : len ≤ m := by rw [hmm]; split <;> omega
    obtain ⟨R, hR⟩ := Deep.choose_lt hV
    have hin : Inhabited Lie := ⟨⟨0, fun _ => 0, 0, 0, 0, 0, ByteArray.empty, false, 0, 0⟩⟩
    obtain ⟨Q, hQ⟩ := Deep.choose_lt (α := Option Addr × Nat × Lie) (n := m) (p := fun i q => (∀ c, c < 9 → (R i)[c]? = some (lieCell (.slice q.1 q.2.2.n q.2.1) q.2.2 c)) ∧ PathR w q.1 q.2.2 ∧ q.2.2.n ≤ 9223372036854775807 ∧ q.2.2.od.size ≤ 9223372036854775807) (fun i hi => by
      obtain ⟨A, C, l, p1, p2, p3, p4⟩ := r_lie (hR i hi).2
      exact ⟨⟨A, C, l⟩, p1, p2, p3, p4⟩)
    refine ⟨some a, len, cap, fun i => (Q i).1, fun i => (Q i).2.1, fun i => (Q i).2.2, h1, (fun e => by cases e), by omega, fun h0 => ?_, fun i hi => ⟨(hQ i (by omega)).2.2.1, (hQ i (by omega)).2.2.2⟩, fun i hi => (hQ i (by omega)).2.1⟩
    obtain ⟨b, off, rfl, hc⟩ := rows_at (w := w) (n := m) (k := 9) (R := R) (by omega) (fun i hi => (hR i hi).1) (by omega)
    refine ⟨b, off, rfl, fun i hi c hc' => ?_⟩
    rw [hc i (by omega) c hc', (hQ i (by omega)).1 c hc']
end
end Go.Proofs.Qxb6601175a.Idx
