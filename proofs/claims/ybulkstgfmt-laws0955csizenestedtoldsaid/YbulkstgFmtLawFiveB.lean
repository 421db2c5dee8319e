import Derived.Test.YbulkstgFmtLawFive
namespace Go.Proofs.YbulkstgFmt.Tk
open Go Go.RowKit

set_option maxRecDepth 100000 in
set_option maxHeartbeats 1000000 in
theorem law_paren (w : World) (N : Int) (h0 : 0 ≤ N) (hN : N < 4294967296) :
    Calls Ybaf.prog 5 #[.bool false, .int .u32 N] w fun e w' => e = .returned (.bool true) ∧ Below w.heap.size w w' := by
  go_enter Ybaf.func5, Ybaf.ntmps5
  go_wp2_with fail
  refine (digits_any _ N h0 hN).mono ?_
  rintro e w1 ⟨s, rfl, hs0, hs1, hg1⟩
  have HS0 : Hid _ := hs0
  have HS1 : Hid _ := hs1
  clear hs0 hs1
  go_wp2_with fail
  have hA : ∃ A B C D, (((w1.alloc A).alloc B).alloc C).alloc D = (((w1.alloc A).alloc B).alloc C).alloc D := ⟨default, default, default, default, rfl⟩
  clear hA
  have kn := C5.new w1 (.int .i64 3) (.string s) (.string ⟨#[]⟩) (.int .i64 3) (.int .i64 5) 28
  generalize hwa : w1.alloc (.cells #[.int .i64 3, .string s, .string ⟨#[]⟩, .int .i64 3, .int .i64 5] 28) = wa at *
  have za : wa.heap.size = w1.heap.size + 1 := by rw [← hwa]; simp
  have ga : w.grownBy wa none := by rw [← hwa]; exact grown_alloc hg1 _
  have ko := C5.new wa (.int .i64 7) (.string ⟨#[40]⟩) (.string ⟨#[]⟩) (.int .i64 2) (.int .i64 1) 28
  generalize hwb : wa.alloc (.cells #[.int .i64 7, .string ⟨#[40]⟩, .string ⟨#[]⟩, .int .i64 2, .int .i64 1] 28) = wb at *
  have zb : wb.heap.size = w1.heap.size + 1 + 1 := by rw [← hwb, ← za]; simp
  have gb : wa.grownBy wb none := by rw [← hwb]; exact World.grownBy_alloc _ _ _
  generalize hwc : wb.alloc (.cells #[.int .i64 7, .string ⟨#[41]⟩, .string ⟨#[]⟩, .int .i64 4, .int .i64 1] 28) = wc at *
  have zc : wc.heap.size = w1.heap.size + 1 + 1 + 1 := by rw [← hwc, ← zb]; simp
  have gc : wb.grownBy wc none := by rw [← hwc]; exact World.grownBy_alloc _ _ _
  have tk : ∀ j x, #[Value.int .i64 7, .string ⟨#[40]⟩, .string ⟨#[]⟩, .int .i64 2, .int .i64 1, .int .i64 3, .string s, .string ⟨#[]⟩, .int .i64 3, .int .i64 5, .int .i64 7, .string ⟨#[41]⟩, .string ⟨#[]⟩, .int .i64 4, .int .i64 1][j]? = some x → (wc.alloc (.cells #[Value.int .i64 7, .string ⟨#[40]⟩, .string ⟨#[]⟩, .int .i64 2, .int .i64 1, .int .i64 3, .string s, .string ⟨#[]⟩, .int .i64 3, .int .i64 5, .int .i64 7, .string ⟨#[41]⟩, .string ⟨#[]⟩, .int .i64 4, .int .i64 1] 28)).cell? ⟨wc.heap.size, j, none⟩ = some x := fun j x hx => (World.cell?_alloc_at _ _ _ _ rfl).trans hx
  generalize hwd : wc.alloc (.cells #[Value.int .i64 7, .string ⟨#[40]⟩, .string ⟨#[]⟩, .int .i64 2, .int .i64 1, .int .i64 3, .string s, .string ⟨#[]⟩, .int .i64 3, .int .i64 5, .int .i64 7, .string ⟨#[41]⟩, .string ⟨#[]⟩, .int .i64 4, .int .i64 1] 28) = wd at *
  have zd : wd.heap.size = wc.heap.size + 1 := by rw [← hwd]; simp
  have gd : wc.grownBy wd none := by rw [← hwd]; exact World.grownBy_alloc _ _ _
  have hP : Ps (wd.alloc (.cells #[.slice (some ⟨wc.heap.size, 0, none⟩) 3 3, .int .i64 0, .pointer none] 33)) wd.heap.size wc.heap.size 3 3 (T3 s) 0 := by
    refine Ps.start (by omega) (Nat.le_refl _) (by decide) ?_ ?_ ?_ ?_ ?_
    all_goals
      intro j hj
      match j, hj with
      | 0, _ => exact tk _ _ rfl
      | 1, _ => exact tk _ _ rfl
      | 2, _ => exact tk _ _ rfl
  rw [show w1.heap.size + 1 + 1 + 1 + 1 = wd.heap.size by omega, show w1.heap.size + 1 + 1 + 1 = wc.heap.size by omega, show w1.heap.size + 1 + 1 = wb.heap.size by omega, show w1.heap.size + 1 = wa.heap.size by omega]
  have gP := World.grownBy_alloc wd (.cells #[.slice (some ⟨wc.heap.size, 0, none⟩) 3 3, .int .i64 0, .pointer none] 33) none
  have kn2 := kn.later (grown_trans (grown_trans (grown_trans gb gc) gd) gP) (by simp)
  have ko2 := ko.later (grown_trans (grown_trans gc gd) gP) (by simp)
  have gW := grown_trans (grown_trans (grown_trans (grown_trans ga gb) gc) gd) gP
  have lo : w.heap.size ≤ w1.heap.size := hg1.size
  generalize wd.alloc (.cells #[.slice (some ⟨wc.heap.size, 0, none⟩) 3 3, .int .i64 0, .pointer none] 33) = we at *
  have l1 : w1.heap.size < wa.heap.size := by omega
  have l2 : wa.heap.size < wd.heap.size := by omega
  have l3 : w.heap.size ≤ wc.heap.size := by omega
  clear hwa hwb hwc hwd za zb zc zd gP ga gb gc gd kn ko tk
  generalize w1.heap.size = bn at *
  generalize wa.heap.size = bo at *
  generalize wb.heap.size = bc at *
  generalize wc.heap.size = bg at *
  generalize wd.heap.size = bB at *
  have hel := elem_paren we bB bg 3 3 0 2 (T3 s) hP (by exact open_no) (num_elem bB bg 3 3 1 (T3 s) s HS0.out HS1.out rfl rfl) (by exact open_is) (by show (3 : Int) ≠ 5; decide) close_set (by exact close_is)
  rw [show tokAt 3 (T3 s) 0 = ⟨7, ⟨#[40]⟩, ⟨#[]⟩, 2, 1⟩ from rfl, show tokAt 3 (T3 s) (0 + 1) = ⟨3, s, ⟨#[]⟩, 3, 5⟩ from rfl] at hel
  dsimp only at hel
  refine hel.mono ?_
  clear hel hP
  rintro e w6 ⟨F, Q, S, u, cu, v, cv, E, rfl, hF, hQ, hA, hg6, hP6⟩
  have kn6 := kn2.later hg6 (by intro e; simp at e; omega)
  have ko6 := ko2.later hg6 (by intro e; simp at e; omega)
  have gZ := grown_trans (grown_some gW (some bB)) hg6
  have hBel : Below w.heap.size w w6 := ⟨gZ.os, gZ.tape, gZ.output, gZ.size, fun k hk => gZ.block k hk (by intro e; simp at e; omega)⟩
  clear kn2 ko2 hg6 gW gZ HS0 HS1
  obtain ⟨_, f0, f1, f2, f3, f4, f5, f6, f7, f8, f9, f10, _⟩ := hF
  obtain ⟨_, q0, q1, q2⟩ := hQ
  obtain ⟨_, _, _, _, c1, c2, c3, hE⟩ := hA
  obtain ⟨_, n0, n1, n2, n3, n4, _⟩ := kn6
  clear ko6
  have p1 : w6.cell? ⟨bB, 1, none⟩ = some (.int .i64 3) := hP6.p1
  have x0 : w6.cell? ⟨bg, 2, none⟩ = some (.string ⟨#[]⟩) := hP6.t2 0 (by decide)
  have x1 : w6.cell? ⟨bg, 3, none⟩ = some (.int .i64 2) := hP6.t3 0 (by decide)
  have x2 : w6.cell? ⟨bg, 4, none⟩ = some (.int .i64 1) := hP6.t4 0 (by decide)
  have y0 : w6.cell? ⟨bg, 5, none⟩ = some (.int .i64 3) := hP6.t0 1 (by decide)
  have y1 : w6.cell? ⟨bg, 6, none⟩ = some (.string s) := hP6.t1 1 (by decide)
  have y2 : w6.cell? ⟨bg, 7, none⟩ = some (.string ⟨#[]⟩) := hP6.t2 1 (by decide)
  have y3 : w6.cell? ⟨bg, 8, none⟩ = some (.int .i64 3) := hP6.t3 1 (by decide)
  have y4 : w6.cell? ⟨bg, 9, none⟩ = some (.int .i64 5) := hP6.t4 1 (by decide)
  have e0 := hE.e0
  have e1 := hE.e1
  have e2 := hE.e2
  have e3 := hE.e3
  have e4 : w6.cell? ⟨E, 4, none⟩ = some (.slice (some ⟨bg, 5, none⟩) 1 2) := hE.e4
  clear hE hP6
  go_wp2
  go_quiet (fail)
  go_wp2
  go_quiet (fail)
  go_wp2
  go_ret
  exact ⟨rfl, by repeat (first | exact hBel | refine below_drewN ?_ _)⟩
end Go.Proofs.YbulkstgFmt.Tk
