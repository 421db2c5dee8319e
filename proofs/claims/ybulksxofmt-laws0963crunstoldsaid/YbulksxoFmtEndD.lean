import Derived.Test.YbulksxoFmtEndC
namespace Go.Proofs.YbulksxoFmt.Bx
open Go Go.RowKit

set_option maxHeartbeats 4000000 in
theorem end_add (w : World) (B b head n at' clen centry : Nat) (buf : Value) (hd : List Value) (vs : List Nat) (h : Bd w b buf head n at' clen centry) (hown : w.ownsRow B 5 1 buf (head + 12 * n) (hd ++ bes vs)) (hh : hd.length = head) (hh1 : head ≤ 100) (hl : vs.length = 3 * n) (hn : n ≤ 100000) (hv : ∀ v ∈ vs, v < 4294967296) (hB : B ≤ w.heap.size)
    (ha : at' < 4294967296) (hc : clen < 4294967296) (he : centry < 4294967296) (h0 : at' ≠ 0) (hs : 0 < n → ¬ (vs.getD (3 * (n - 1) + 1) 0 = clen ∧ vs.getD (3 * (n - 1) + 2) 0 = centry)) :
    Calls Ybaf.prog 5 #[.pointer (some ⟨b, 0, none⟩)] w fun e w' => e = .returned (.tuple #[]) ∧ ∃ buf', Bd w' b buf' head (n + 1) at' clen centry ∧ w'.ownsRow B 5 1 buf' (head + 12 * (n + 1)) (hd ++ bes (vs ++ [at', clen, centry])) ∧ Bk w w' b 20 buf.ownBlock ∧ ∀ j, buf'.ownBlock = some j → buf.ownBlock = some j ∨ w.heap.size ≤ j := by
  obtain ⟨kt, fz, c20, c21, c22, c23, c27, c28, c29⟩ := id h
  have b0 : ((at' : Int) == 0) = false := by simp; omega
  have HA : Hid (∀ W t, w.grownBy W none → w.heap.size ≤ t → W.cell? ⟨t, 0, none⟩ = some (.int .u32 (at' : Int)) → W.cell? ⟨t, 1, none⟩ = some (.int .u32 (clen : Int)) → W.cell? ⟨t, 2, none⟩ = some (.int .u32 (centry : Int)) → Calls Ybaf.prog 10 #[.pointer (some ⟨b, 20, none⟩), .slice (some ⟨t, 0, none⟩) 3 3] W fun e w'' => e = .returned (.tuple #[]) ∧ ∃ buf', Bd w'' b buf' head (n + 1) at' clen centry ∧ w''.ownsRow B 5 1 buf' (head + 12 * (n + 1)) (hd ++ bes (vs ++ [at', clen, centry])) ∧ Bk w w'' b 20 buf.ownBlock ∧ ∀ j, buf'.ownBlock = some j → buf.ownBlock = some j ∨ w.heap.size ≤ j) := fun W t hgX hs s0 s1 s2 => add_after h hown hgX hs s0 s1 s2 hB hn hh1 ha hc he
  by_cases hn0 : n = 0
  · have b1 : decide (0 < (n : Int)) = false := by simp; omega
    clear hs hown hl hv h
    go_enter Ybaf.func5, Ybaf.ntmps5
    go_wp2
    go_quiet (fail)
    have hgX : w.grownBy (w.drewN nq) none := grown_drewN (grown_refl _ _) _
    go_wp2_with fail
    go_region_held3 (fun w' => w'.cell? ⟨b, 27, none⟩ = some (.int .u32 (at' : Int)) ∧ w'.cell? ⟨b, 28, none⟩ = some (.int .u32 (clen : Int)) ∧ w'.cell? ⟨b, 29, none⟩ = some (.int .u32 (centry : Int))) (first | (simp [go_sem, *]; done) | (refine ⟨cell?_alloc_old _ ?_, cell?_alloc_old _ ?_, cell?_alloc_old _ ?_⟩ <;> (first | assumption | (simp [go_sem, *]; done))) | skip) (first
      | (go_at_call 10; refine (HA.out _ _ ?_ ?_ ?_ ?_ ?_).mono ?_; (first | exact grown_drew (grown_alloc hgX _) | exact grown_alloc hgX _ | exact grown_alloc (grown_drew hgX) _); (exact hgX.size); (exact World.cell?_alloc_at _ _ _ _ rfl); (exact World.cell?_alloc_at _ _ _ _ rfl); (exact World.cell?_alloc_at _ _ _ _ rfl); rintro e w7 ⟨rfl, buf', hB7, hO7, hK7, hN7⟩; have z27 := hB7.c27; have z28 := hB7.c28; have z29 := hB7.c29))
    go_wp2
    go_end0
    exact ⟨rfl, buf', hB7, hO7, hK7, hN7⟩
  have b1 : decide (0 < (n : Int)) = true := by simp; omega
  have w1 : IntKind.u32.wrap ((n : Int) - 1) = (n : Int) - 1 := by rw [IntKind.wrap_u32]; omega
  have e1 : ((n - 1 : Nat) : Int) = (n : Int) - 1 := by omega
  have F1 : Hid (∀ w', w.grownBy w' none → Calls Ybaf.prog 6 #[.pointer (some ⟨b, 20, none⟩), .int .u32 ((n : Int) - 1), .int .i64 1] w' fun e w'' => e = .returned (.int .u32 ((vs.getD (3 * (n - 1) + 1) 0 : Nat) : Int)) ∧ w.grownBy w'' none) := by
    have := last_field h hown hh hh1 hl hn hv (n - 1) 1 (by omega) (by decide)
    rw [e1] at this
    exact this
  have F2 : Hid (∀ w', w.grownBy w' none → Calls Ybaf.prog 6 #[.pointer (some ⟨b, 20, none⟩), .int .u32 ((n : Int) - 1), .int .i64 2] w' fun e w'' => e = .returned (.int .u32 ((vs.getD (3 * (n - 1) + 2) 0 : Nat) : Int)) ∧ w.grownBy w'' none) := by
    have := last_field h hown hh hh1 hl hn hv (n - 1) 2 (by omega) (by decide)
    rw [e1] at this
    exact this
  have hs2 := hs (by omega)
  have hn1 : 0 < n := by omega
  generalize vs.getD (3 * (n - 1) + 1) 0 = u1 at *
  generalize vs.getD (3 * (n - 1) + 2) 0 = u2 at *
  by_cases h1 : u1 = clen
  · have h2 : ((u2 : Int) == (centry : Int)) = false := by simp; intro e; exact hs2 ⟨h1, by omega⟩
    subst h1
    clear hs hown hl hv h e1 hs2
    go_enter Ybaf.func5, Ybaf.ntmps5
    go_wp2
    go_region_held3 (fun w' => w'.cell? ⟨b, 27, none⟩ = some (.int .u32 (at' : Int)) ∧ w'.cell? ⟨b, 28, none⟩ = some (.int .u32 (u1 : Int)) ∧ w'.cell? ⟨b, 29, none⟩ = some (.int .u32 (centry : Int))) (first | (simp [go_sem, *]; done) | skip) (first
      | (go_at_call_of 6 (Value.int IntKind.i64 1); refine (F1.out _ ?_).mono ?_; (first | exact grown_refl _ _ | exact grown_drew (grown_refl _ _)); rintro e w5 ⟨rfl, hg5⟩; have x27 := hg5.cell c27 (by simp); have x28 := hg5.cell c28 (by simp); have x29 := hg5.cell c29 (by simp))
      | (go_at_call_of 6 (Value.int IntKind.i64 2); refine (F2.out _ hg5).mono ?_; rintro e w6 ⟨rfl, hg6⟩; have y27 := hg6.cell c27 (by simp); have y28 := hg6.cell c28 (by simp); have y29 := hg6.cell c29 (by simp)))
    clear x27 x28 x29
    have hgX := hg6
    go_wp2_with fail
    go_region_held3 (fun w' => w'.cell? ⟨b, 27, none⟩ = some (.int .u32 (at' : Int)) ∧ w'.cell? ⟨b, 28, none⟩ = some (.int .u32 (u1 : Int)) ∧ w'.cell? ⟨b, 29, none⟩ = some (.int .u32 (centry : Int))) (first | (simp [go_sem, *]; done) | (refine ⟨cell?_alloc_old _ ?_, cell?_alloc_old _ ?_, cell?_alloc_old _ ?_⟩ <;> (first | assumption | (simp [go_sem, *]; done))) | skip) (first
      | (go_at_call 10; refine (HA.out _ _ ?_ ?_ ?_ ?_ ?_).mono ?_; (first | exact grown_drew (grown_alloc hgX _) | exact grown_alloc hgX _ | exact grown_alloc (grown_drew hgX) _); (exact hgX.size); (exact World.cell?_alloc_at _ _ _ _ rfl); (exact World.cell?_alloc_at _ _ _ _ rfl); (exact World.cell?_alloc_at _ _ _ _ rfl); rintro e w7 ⟨rfl, buf', hB7, hO7, hK7, hN7⟩; have z27 := hB7.c27; have z28 := hB7.c28; have z29 := hB7.c29))
    go_wp2
    go_end0
    exact ⟨rfl, buf', hB7, hO7, hK7, hN7⟩
  · exact end_addC w B b head n at' clen centry buf hd vs h hown hh hh1 hl hn hv hB ha hc he h0 hn1 u1 u2 F1 h1

end Go.Proofs.YbulksxoFmt.Bx
