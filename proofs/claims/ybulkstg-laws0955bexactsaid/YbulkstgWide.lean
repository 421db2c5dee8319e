import Derived.Test.YbulkstgInts
import Derived.Shelf.Spec.BitsCarry
namespace Go.Proofs.Ybulkstg.Wide
open Go.RowKit Go.Proofs.Ybulkstg.Ints

def dv (x y b : Int) : Int := (x - y - b) % 18446744073709551616
def bw (x y b : Int) : Int := if x < y + b then 1 else 0

theorem sub64 (x y b : Int) (hx : 0 ≤ x) (hy : 0 ≤ y) (hy' : y < 18446744073709551616) (hb0 : 0 ≤ b) (hb : b ≤ 1) (w : World) : (callFunc 10 #[.int .u64 x, .int .u64 y, .int .u64 b]).run Yba.prog w =
    .ok (.value (.tuple #[.int .u64 (dv x y b), .int .u64 (bw x y b)])) w := by
  obtain ⟨x, rfl⟩ := Int.eq_ofNat_of_zero_le hx
  obtain ⟨y, rfl⟩ := Int.eq_ofNat_of_zero_le hy
  obtain ⟨b, rfl⟩ := Int.eq_ofNat_of_zero_le hb0
  have e1 : (((x + 18446744073709551616 - y - b) % 18446744073709551616 : Nat) : Int) = dv x y b := by unfold dv; omega
  have e2 : ((if x < y + b then 1 else 0 : Nat) : Int) = bw x y b := by unfold bw; split <;> split <;> omega
  rw [← e1, ← e2, run_callFunc_extern Yba.func10 (by kernel_rfl) (by kernel_rfl) (by kernel_rfl) (e := sub64Entry) (by kernel_rfl), run_sub64 x y b (by omega)]
  rfl

/-- The two words of an Int as a 128-bit number. -/
def wh (n : Bool) : Int := if n = true then 18446744073709551615 else 0
def wl (n : Bool) (a : Int) : Int := if n = true then 18446744073709551616 - a else a

set_option maxHeartbeats 1000000 in
theorem wide_any (n : Bool) (a : Int) (w : World) (h : Ok n a) :
    Calls Yba.prog 9 #[.agg #[.bool n, .int .u64 a]] w fun e w' => e = .returned (.tuple #[.int .u64 (wh n), .int .u64 (wl n a)]) ∧
      ∃ c n, w' = (w.alloc (.cells c 29)).drewN n := by
  obtain ⟨h0, h1, h2⟩ := h
  cases n
  · go_enter Yba.func9, Yba.ntmps9
    go_wp2
    go_quiet (fail)
    go_wp2
    go_ret2
    exact ⟨rfl, _, _, rfl⟩
  · have e1 : dv 0 a 0 = wl true a := by simp [dv, wl] at *; omega
    have e2 : bw 0 a 0 = 1 := by simp [bw] at *; omega
    have e3 : dv 0 0 1 = wh true := by simp [dv, wh]
    have s1 := sub64 0 a 0 (by omega) h0 h1 (by omega) (by omega)
    have s2 := sub64 0 0 1 (by omega) (by omega) (by omega) (by omega) (by omega)
    rw [e1, e2] at s1
    rw [e3] at s2
    go_enter Yba.func9, Yba.ntmps9
    go_wp2_with (first | simp only [s1] | simp only [s2])
    go_ret2
    exact ⟨rfl, _, 0, rfl⟩

end Go.Proofs.Ybulkstg.Wide
