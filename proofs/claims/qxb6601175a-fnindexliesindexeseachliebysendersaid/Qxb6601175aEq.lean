import Derived.Test.Qxb6601175aRows
import Derived.WalkKit
import Derived.ProofKit
namespace Go.Proofs.Qxb6601175a.Idx
open Go.RowKit

theorem sized3 : (Try.prog.info? 3).map (·.size) = some 1 := by kernel_rfl
theorem guard30 : Try.prog.eqGuardType Try.prog.depth 30 = false := by kernel_rfl
theorem eq_pair_at (k : Nat) (a b c d : Int) (w : World) : (Op.equalIn (k + 1 + 1) 30 (.agg #[.int .i64 a, .int .i64 b]) (.agg #[.int .i64 c, .int .i64 d])).run Try.prog w = .ok (a == c && b == d) w := by
  obtain ⟨i, hi, hs⟩ := Option.map_eq_some_iff.1 sized3
  have hsz : ∀ w, (sizeOf 3).run Try.prog w = .ok 1 w := fun w => by simp [sizeOf, typeInfo, hi, hs]
  have e1 : ∀ (x y : Int) (w : World), (Op.equalIn (k + 1) 3 (.int .i64 x) (.int .i64 y)).run Try.prog w = .ok (x == y) w := fun x y w => run_equalIn_int w k 3 .i64 .i64 x y Try.underlying3
  rw [Op.equalIn]
  simp only [Sem.run_bind, run_underlying Try.underlying30, Result.andThen_ok, hsz]
  have hp : ∀ (x y : Int) (w : World), (part 3 #[.int .i64 x, .int .i64 y] 0).run Try.prog w = .ok (.int .i64 x) w := fun x y w => by
    simp [part, isAgg, run_underlying Try.underlying3]
  have hp1 : ∀ (x y : Int) (w : World), (part 3 #[.int .i64 x, .int .i64 y] 1).run Try.prog w = .ok (.int .i64 y) w := fun x y w => by
    simp [part, isAgg, run_underlying Try.underlying3]
  simp [Std.Legacy.Range.forIn_eq_forIn_range', Std.Legacy.Range.size, List.range', hp, hp1, e1]
  by_cases h1 : a = c <;> by_cases h2 : b = d <;> simp [h1, h2]

/-- '==' on two [2]int, as the walk meets it -/
theorem eq_pair (a b c d : Int) (w : World) : (Op.equalIn 10000 30 (.agg #[.int .i64 a, .int .i64 b]) (.agg #[.int .i64 c, .int .i64 d])).run Try.prog w = .ok (a == c && b == d) w :=
  eq_pair_at 9998 a b c d w
end Go.Proofs.Qxb6601175a.Idx
