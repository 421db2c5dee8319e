import Derived.Test.YbulksxoFmtBase
namespace Go.Proofs.YbulksxoFmt.Bx
open Go Go.RowKit

theorem eq4d (w : World) (n : Nat) (a b c d : Int) : (Op.equalIn (n + 2) 43 (.agg #[.int .u8 a, .int .u8 b, .int .u8 c, .int .u8 d]) (.agg #[.int .u8 a, .int .u8 b, .int .u8 c, .int .u8 d])).run Ybaf.prog w = .ok true w := by
  have h43 : Ybaf.prog.underlying 43 = some (.array 4 5) := by kernel_rfl
  have h5 : Ybaf.prog.underlying 5 = some (.int .u8) := by kernel_rfl
  have hi5 : ∀ (w : World) (x : Int), (Op.equalIn (n + 1) 5 (.int .u8 x) (.int .u8 x)).run Ybaf.prog w = .ok true w := fun w x => by
    have := run_equalIn_int (P := Ybaf.prog) w n 5 .u8 .u8 x x h5
    simpa using this
  obtain ⟨i0, hi, hz0, hz1, hz2⟩ := info_parts info5
  have hc5 : Ybaf.prog.cellsOf 5 = 1 := by kernel_rfl
  have hsz : ∀ w : World, (Go.sizeOf 5).run Ybaf.prog w = .ok 1 w := fun w => by rw [run_sizeOf w hi, hc5]
  have hag : ∀ w : World, (isAgg 5).run Ybaf.prog w = .ok false w := fun w => by simp [isAgg, run_underlying h5]
  have hp : ∀ (w : World) (cs : Array Value) (i : Nat) (v : Value), cs[i]? = some v → (part 5 cs i).run Ybaf.prog w = .ok v w := fun w cs i v h => by simp [part, hag, h]
  have p0 := fun w => hp w #[.int .u8 a, .int .u8 b, .int .u8 c, .int .u8 d] 0 _ rfl
  have p1 := fun w => hp w #[.int .u8 a, .int .u8 b, .int .u8 c, .int .u8 d] 1 _ rfl
  have p2 := fun w => hp w #[.int .u8 a, .int .u8 b, .int .u8 c, .int .u8 d] 2 _ rfl
  have p3 := fun w => hp w #[.int .u8 a, .int .u8 b, .int .u8 c, .int .u8 d] 3 _ rfl
  rw [Op.equalIn]
  simp [run_underlying h43, hsz, List.range', p0, p1, p2, p3, hi5]

theorem eq4 (w : World) (a b c d : Int) : (Op.equalIn 10000 43 (.agg #[.int .u8 a, .int .u8 b, .int .u8 c, .int .u8 d]) (.agg #[.int .u8 a, .int .u8 b, .int .u8 c, .int .u8 d])).run Ybaf.prog w = .ok true w := eq4d w 9998 a b c d

end Go.Proofs.YbulksxoFmt.Bx
