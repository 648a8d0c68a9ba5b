import Derived.Test.Qxb6603994aW3
namespace Go.Proofs.Qxb6603994a
open Go.RowKit
theorem Try.info5 : (Try.prog.info? 5).map (fun i => (i.zero, i.size, i.bytes)) = some (some (.int .u8 0), 1, 1) := by kernel_rfl
theorem eq25_ (d : Nat) (e : ∀ (x : Int) (w : World), (Op.equalIn d 5 (.int .u8 x) (.int .u8 x)).run Try.prog w = .ok true w) (x0 x1 x2 x3 : Int) (w : World) : (Op.equalIn (d + 1) 25 (.agg #[.int .u8 x0, .int .u8 x1, .int .u8 x2, .int .u8 x3]) (.agg #[.int .u8 x0, .int .u8 x1, .int .u8 x2, .int .u8 x3])).run Try.prog w = .ok true w := by
  obtain ⟨i, hi, h0, h1, h2⟩ := info_parts Try.info5
  have ag : ∀ w, (isAgg 5).run Try.prog w = .ok false w := fun w => by simp [isAgg, run_underlying Try.underlying5]
  have sz : ∀ w, (sizeOf 5).run Try.prog w = .ok 1 w := fun w => by simp [sizeOf, typeInfo, hi, h1]
  simp only [Op.equalIn, Sem.run_bind, run_underlying Try.underlying25, Result.andThen_ok, sz]
  simp [Std.Legacy.Range.forIn_eq_forIn_range', List.range', part, ag, e]
theorem eq25 (x0 x1 x2 x3 : Int) (w : World) : (Op.equalIn 9999 25 (.agg #[.int .u8 x0, .int .u8 x1, .int .u8 x2, .int .u8 x3]) (.agg #[.int .u8 x0, .int .u8 x1, .int .u8 x2, .int .u8 x3])).run Try.prog w = .ok true w :=
  eq25_ 9998 (fun x w => by rw [run_equalIn_int w 9997 5 .u8 .u8 x x Try.underlying5]; simp) x0 x1 x2 x3 w
end Go.Proofs.Qxb6603994a
