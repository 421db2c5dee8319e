import Derived.Test.YbulkstgRows
import Derived.WalkKit
import Derived.WalkSpells
import Derived.WalkLawsBesides
import Derived.Handy
import Derived.BigQuiet
namespace Go.Proofs.Ybulkstg.Ints
open Go.RowKit

theorem grown_drewN {W w' : World} (h : Grown W w') (n : Nat) : Grown W (w'.drewN n) := h

/-- The sign and magnitude as a whole number. -/
def sv (n : Bool) (a : Int) : Int := if n = true then -a else a
/-- A well-formed Int. -/
def Ok (n : Bool) (a : Int) : Prop := 0 ≤ a ∧ a < 18446744073709551616 ∧ (n = true → 0 < a)

def cmpI (x y : Int) : Int := if x = y then 0 else if x < y then -1 else 1

set_option maxHeartbeats 1000000 in
theorem mk_any (n : Bool) (a : Int) (w : World) (h0 : 0 ≤ a) :
    Calls Yba.prog 8 #[.bool n, .int .u64 a] w fun e w' => e = .returned (.agg #[.bool (n && a != 0), .int .u64 a]) ∧ ∃ c, w' = w.alloc (.cells c 29) := by
  cases n
  · go_enter Yba.func8, Yba.ntmps8
    go_wp2
    go_returns
    exact ⟨rfl, _, rfl⟩
  · by_cases ha : a = 0
    · subst ha
      go_enter Yba.func8, Yba.ntmps8
      go_wp2
      go_returns
      exact ⟨rfl, _, rfl⟩
    · have hb : (a != 0) = true := by simp [ha]
      go_enter Yba.func8, Yba.ntmps8
      go_wp2
      go_returns
      exact ⟨by simp [hb], _, rfl⟩

theorem ret_int {k : IntKind} {a b : Int} (h : a = b) : Ending.returned (.int k a) = .returned (.int k b) := by rw [h]

theorem ret_pair {k : IntKind} {a b : Int} {p q : Bool} (h : a = b) (h' : p = q) : Ending.returned (.tuple #[.int k a, .bool p]) = .returned (.tuple #[.int k b, .bool q]) := by rw [h, h']

theorem cmp_eq (xn : Bool) (xa : Int) : cmpI (sv xn xa) (sv xn xa) = 0 := by simp [cmpI]
theorem cmp_lt {x y : Int} (h : x < y) : cmpI x y = -1 := by unfold cmpI; rw [if_neg (by omega), if_pos h]
theorem cmp_gt {x y : Int} (h : y < x) : cmpI x y = 1 := by unfold cmpI; rw [if_neg (by omega), if_neg (by omega)]

set_option maxHeartbeats 1000000 in
theorem cmp_any (xn yn : Bool) (xa ya : Int) (w : World) (hx : Ok xn xa) (hy : Ok yn ya) :
    Calls Yba.prog 18 #[.agg #[.bool xn, .int .u64 xa], .agg #[.bool yn, .int .u64 ya]] w fun e w' => e = .returned (.int .i64 (cmpI (sv xn xa) (sv yn ya))) ∧ ∃ c1 c2, w' = (w.alloc (.cells c1 29)).alloc (.cells c2 29) := by
  obtain ⟨hx0, hx1, hx2⟩ := hx
  obtain ⟨hy0, hy1, hy2⟩ := hy
  by_cases he : xa = ya
  · subst he
    cases xn <;> cases yn <;> simp at hx2 hy2 <;>
    · go_enter Yba.func18, Yba.ntmps18
      go_wp2
      go_ret
      exact ⟨ret_int (by simp [cmpI, sv]; try omega), _, _, rfl⟩
  · have hb : (xa == ya) = false := by simp [he]
    rcases Int.lt_or_gt_of_ne he with hl | hl
    · have hd : decide (xa < ya) = true := by simpa using hl
      cases xn <;> cases yn <;> simp at hx2 hy2 <;>
      · go_enter Yba.func18, Yba.ntmps18
        go_wp2
        go_ret
        refine ⟨ret_int ?_, _, _, rfl⟩
        first | rw [cmp_lt (by simp [sv]; omega)] | rw [cmp_gt (by simp [sv]; omega)]
    · have hd : decide (xa < ya) = false := by simp; omega
      cases xn <;> cases yn <;> simp at hx2 hy2 <;>
      · go_enter Yba.func18, Yba.ntmps18
        go_wp2
        go_ret
        refine ⟨ret_int ?_, _, _, rfl⟩
        first | rw [cmp_lt (by simp [sv]; omega)] | rw [cmp_gt (by simp [sv]; omega)]

/-- x - from. -/
def dif (xn : Bool) (xa : Int) (fn : Bool) (fa : Int) : Int := sv xn xa - sv fn fa
def offV (d : Int) : Int := if d < 0 then 0 else d % 18446744073709551616
def offB (d : Int) : Bool := decide (0 ≤ d ∧ d < 18446744073709551616)

set_option maxHeartbeats 1000000 in
theorem off_any (xn fn : Bool) (xa fa : Int) (w : World) (hx : Ok xn xa) (hf : Ok fn fa) :
    Calls Yba.prog 11 #[.agg #[.bool xn, .int .u64 xa], .agg #[.bool fn, .int .u64 fa]] w fun e w' => e = .returned (.tuple #[.int .u64 (offV (sv xn xa - sv fn fa)), .bool (offB (sv xn xa - sv fn fa))]) ∧
      ∃ c1 c2 c3 c4 n, w' = ((((w.alloc (.cells c1 29)).alloc (.cells c2 29)).alloc (.cells c3 29)).alloc (.cells c4 29)).drewN n := by
  have hc := fun w => cmp_any xn fn xa fa w hx hf
  obtain ⟨hx0, hx1, hx2⟩ := hx
  obtain ⟨hy0, hy1, hy2⟩ := hf
  by_cases hl : sv xn xa < sv fn fa
  · rw [cmp_lt hl] at hc
    have HC : Hid _ := hc
    clear hc
    go_enter Yba.func11, Yba.ntmps11
    go_wp2_with (go_at_call 18; refine (HC.out _).mono ?_; rintro e w' ⟨rfl, c1, c2, rfl⟩)
    go_ret2
    exact ⟨ret_pair (by unfold offV; rw [if_pos (by omega)]) (by unfold offB; symm; rw [decide_eq_false_iff_not]; omega), _, _, _, _, 0, rfl⟩
  · have hcz : decide (cmpI (sv xn xa) (sv fn fa) < 0) = false := by unfold cmpI; simp; split <;> (try split) <;> omega
    have Hl : Hid (¬ sv xn xa < sv fn fa) := hl
    have HC : Hid _ := hc
    clear hc hl
    generalize hcc : cmpI (sv xn xa) (sv fn fa) = cc at *
    clear hcc
    have hlo := Hl.out
    cases xn <;> cases fn
    · have e1 : IntKind.u64.wrap (xa - fa) = offV (sv false xa - sv false fa) := by rw [IntKind.wrap_u64]; simp only [sv, offV] at *; simp at *; omega
      have e2 : offB (sv false xa - sv false fa) = true := by simp only [sv, offB] at *; simp at *; omega
      have E1 : Hid _ := e1
      have E2 : Hid _ := e2
      clear e1 e2 hlo
      go_enter Yba.func11, Yba.ntmps11
      go_wp2_with (go_at_call 18; refine (HC.out _).mono ?_; rintro e w' ⟨rfl, c1, c2, rfl⟩)
      go_ret2
      exact ⟨ret_pair E1.out E2.out.symm, _, _, _, _, 0, rfl⟩
    · have e1 : IntKind.u64.wrap (xa + fa) = offV (sv false xa - sv true fa) := by rw [IntKind.wrap_u64]; simp only [sv, offV] at *; simp at *; omega
      have e2 : offB (sv false xa - sv true fa) = decide (xa ≤ IntKind.u64.wrap (xa + fa)) := by rw [IntKind.wrap_u64, Bool.eq_iff_iff]; unfold offB; rw [decide_eq_true_iff, decide_eq_true_iff]; simp only [sv] at *; simp at *; omega
      have E1 : Hid _ := e1
      have E2 : Hid _ := e2
      clear e1 e2 hlo
      go_enter Yba.func11, Yba.ntmps11
      go_wp2_with (go_at_call 18; refine (HC.out _).mono ?_; rintro e w' ⟨rfl, c1, c2, rfl⟩)
      go_quiet (fail)
      go_wp2
      go_ret2
      exact ⟨ret_pair E1.out E2.out.symm, _, _, _, _, nq, rfl⟩
    · exfalso; simp [sv] at hlo hx2; omega
    · have e1 : IntKind.u64.wrap (fa - xa) = offV (sv true xa - sv true fa) := by rw [IntKind.wrap_u64]; simp only [sv, offV] at *; simp at *; omega
      have e2 : offB (sv true xa - sv true fa) = true := by simp only [sv, offB] at *; simp at *; omega
      have E1 : Hid _ := e1
      have E2 : Hid _ := e2
      clear e1 e2 hlo
      go_enter Yba.func11, Yba.ntmps11
      go_wp2_with (go_at_call 18; refine (HC.out _).mono ?_; rintro e w' ⟨rfl, c1, c2, rfl⟩)
      go_ret2
      exact ⟨ret_pair E1.out E2.out.symm, _, _, _, _, 0, rfl⟩

/-- Plus, at the sums that the law meets: f + d = x, all in range. -/
theorem plus_back (xn fn : Bool) (xa fa d : Int) (w : World) (hx : Ok xn xa) (hf : Ok fn fa) (h0 : 0 ≤ d) (h1 : d < 18446744073709551616) (hd : sv fn fa + d = sv xn xa) :
    Calls Yba.prog 12 #[.agg #[.bool fn, .int .u64 fa], .int .u64 d] w fun e w' => e = .returned (.tuple #[.agg #[.bool xn, .int .u64 xa], .bool true]) ∧
      ∃ c1 c2 n, w' = ((w.alloc (.cells c1 29)).alloc (.cells c2 29)).drewN n := by
  obtain ⟨hx0, hx1, hx2⟩ := hx
  obtain ⟨hy0, hy1, hy2⟩ := hf
  cases fn
  · obtain rfl : xn = false := by cases xn <;> simp [sv] at * ; omega
    have e1 : IntKind.u64.wrap (fa + d) = xa := by rw [IntKind.wrap_u64]; simp [sv] at *; omega
    have e2 : decide (fa ≤ xa) = true := by simp [sv] at *; omega
    clear hd
    go_enter Yba.func12, Yba.ntmps12
    go_wp2
    go_region
    all_goals
      go_wp2
      refine bodyPost_ret (v := .tuple #[.agg #[.bool false, .int .u64 xa], .bool true]) (by simp [results, Yba.results12, go_sem]) rfl ⟨rfl, _, _, 1, rfl⟩
  · by_cases hu : fa ≤ d
    · obtain rfl : xn = false := by cases xn <;> simp [sv] at * ; omega
      have e1 : IntKind.u64.wrap (d - fa) = xa := by rw [IntKind.wrap_u64]; simp [sv] at *; omega
      clear hd
      go_enter Yba.func12, Yba.ntmps12
      go_wp2
      refine bodyPost_ret (v := .tuple #[.agg #[.bool false, .int .u64 xa], .bool true]) (by simp [results, Yba.results12, go_sem]) rfl ⟨rfl, _, _, 0, rfl⟩
    · obtain rfl : xn = true := by cases xn <;> simp [sv] at * ; omega
      have e1 : IntKind.u64.wrap (fa - d) = xa := by rw [IntKind.wrap_u64]; simp [sv] at *; omega
      clear hd
      go_enter Yba.func12, Yba.ntmps12
      go_wp2
      refine bodyPost_ret (v := .tuple #[.agg #[.bool true, .int .u64 xa], .bool true]) (by simp [results, Yba.results12, go_sem]) rfl ⟨rfl, _, _, 0, rfl⟩
end Go.Proofs.Ybulkstg.Ints
