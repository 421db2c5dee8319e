import Derived.Test.YbulksxoFmtLaw
namespace Go.Proofs.YbulksxoFmt.Bx
open Go Go.RowKit

set_option maxRecDepth 100000 in
set_option maxHeartbeats 1000000 in
theorem law_big (w : World) (ao : Option Addr) (n c : Nat) (h : 1024 < n) :
    Calls Ybaf.prog 3 #[.slice ao n c] w fun e w' => e = .returned (.bool true) ∧ Below w.heap.size w w' := by
  go_enter Ybaf.func3, Ybaf.ntmps3
  go_wp2
  go_ret
  exact ⟨rfl, Below.refl _ _⟩

set_option maxRecDepth 100000 in
set_option maxHeartbeats 4000000 in
theorem law_zero (w : World) (ao : Option Addr) (c : Nat) :
    Calls Ybaf.prog 3 #[.slice ao 0 c] w fun e w' => e = .returned (.bool true) ∧ Below w.heap.size w w' := by
  have hgB : w.grownBy (w.alloc (.cells bd0 29)) none := World.grownBy_alloc w _ none
  have c23 : (w.alloc (.cells bd0 29)).cell? ⟨w.heap.size, 23, none⟩ = some (.int .u32 0) := World.cell?_alloc_at _ _ _ _ rfl
  have c27 : (w.alloc (.cells bd0 29)).cell? ⟨w.heap.size, 27, none⟩ = some (.int .u32 0) := World.cell?_alloc_at _ _ _ _ rfl
  have HE : Hid (Calls Ybaf.prog 5 #[.pointer (some ⟨w.heap.size, 0, none⟩)] (w.alloc (.cells bd0 29)) fun e w' => e = .returned (.tuple #[]) ∧ (w.alloc (.cells bd0 29)).grownBy w' none) := end_zero _ _ c23 c27
  have HC23 : Hid _ := c23
  have HC27 : Hid _ := c27
  have HGB : Hid _ := hgB
  clear c23 c27 hgB
  simp only [bd0] at HE HC23 HC27 HGB
  go_enter Ybaf.func3, Ybaf.ntmps3
  go_wp2_with fail
  generalize w.alloc (.cells #[.int .u32 0, .int .u64 0, .int .i64 0, .int .i64 0, .slice none 0 0, .int .i64 0, .int .i64 0, .int .u32 0, .slice none 0 0, .int .i64 0, .int .i64 0, .int .u32 0, .slice none 0 0, .int .i64 0, .int .i64 0, .int .u32 0, .slice none 0 0, .int .i64 0, .int .i64 0, .int .u32 0, .slice none 0 0, .int .i64 0, .int .i64 0, .int .u32 0, .slice none 0 0, .int .i64 0, .int .i64 0, .int .u32 0, .int .u32 0, .int .u32 0, .int .i64 0] 29) = W0 at *
  generalize hb : w.heap.size = b at *
  have HB : Hid _ := hb
  clear hb
  go_loopw [19] (fun i wr => i = .int .i64 0 ∧ wr = W0) (fun _ _ => 0)
  case atStart => exact ⟨rfl, rfl⟩
  case round =>
    obtain ⟨rfl, rfl⟩ := hrel
    go_wp2_with fail
    refine Calls.mono HE.out ?_
    rintro e w5 ⟨rfl, hg5⟩
    have k23 := hg5.cell HC23.out (by simp)
    have k27 := hg5.cell HC27.out (by simp)
    go_wp2
    go_ret
    refine ⟨rfl, ?_⟩
    have := HB.out
    subst this
    exact grown_below (grown_trans HGB.out hg5) (Nat.le_refl _)

/-- The law, whatever the script. -/
theorem law_any (w : World) (ao : Option Addr) (n c : Nat) (hG : Gls w) (hE : n = 0 ∨ ∃ p q G Z E, ao = some ⟨p, q, none⟩ ∧ Op3 w p q n G Z E) :
    Calls Ybaf.prog 3 #[.slice ao n c] w fun e w' => e = .returned (.bool true) ∧ Below w.heap.size w w' := by
  by_cases hbig : 1024 < n
  · exact law_big w ao n c hbig
  rcases Nat.eq_zero_or_pos n with rfl | hn0
  · exact law_zero w ao c
  · obtain ⟨p, q, G, Z, E, rfl, hO⟩ := hE.resolve_left (by omega)
    exact law_some w p q n c G Z E hn0 (by omega) hO hG

end Go.Proofs.YbulksxoFmt.Bx
