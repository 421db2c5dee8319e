import Derived.Test.YbulksxoFmtEnd
import Derived.Lib.QuietBelow
namespace Go.Proofs.YbulksxoFmt.Bx
open Go Go.RowKit

set_option maxHeartbeats 4000000 in
theorem end_addC (w : World) (B b head n at' clen centry : Nat) (buf : Value) (hd : List Value) (vs : List Nat) (h : Bd w b buf head n at' clen centry) (hown : w.ownsRow B 5 1 buf (head + 12 * n) (hd ++ bes vs)) (_hh : hd.length = head) (hh1 : head ≤ 100) (hl : vs.length = 3 * n) (hn : n ≤ 100000) (_hv : ∀ v ∈ vs, v < 4294967296) (hB : B ≤ w.heap.size)
    (ha : at' < 4294967296) (hc : clen < 4294967296) (he : centry < 4294967296) (h0 : at' ≠ 0) (hn1 : 0 < n) (u1 _u2 : Nat) (F1 : Hid (∀ w', w.grownBy w' none → Calls Ybaf.prog 6 #[.pointer (some ⟨b, 20, none⟩), .int .u32 ((n : Int) - 1), .int .i64 1] w' fun e w'' => e = .returned (.int .u32 (u1 : Int)) ∧ w.grownBy w'' none)) (h1 : ¬ u1 = clen) :
    Calls Ybaf.prog 5 #[.pointer (some ⟨b, 0, none⟩)] w fun e w' => e = .returned (.tuple #[]) ∧ ∃ buf', Bd w' b buf' head (n + 1) at' clen centry ∧ w'.ownsRow B 5 1 buf' (head + 12 * (n + 1)) (hd ++ bes (vs ++ [at', clen, centry])) ∧ Bk w w' b 20 buf.ownBlock ∧ ∀ j, buf'.ownBlock = some j → buf.ownBlock = some j ∨ w.heap.size ≤ j := by
  obtain ⟨kt, fz, c20, c21, c22, c23, c27, c28, c29⟩ := id h
  have b0 : ((at' : Int) == 0) = false := by simp; omega
  have HA : Hid (∀ W t, w.grownBy W none → w.heap.size ≤ t → W.cell? ⟨t, 0, none⟩ = some (.int .u32 (at' : Int)) → W.cell? ⟨t, 1, none⟩ = some (.int .u32 (clen : Int)) → W.cell? ⟨t, 2, none⟩ = some (.int .u32 (centry : Int)) → Calls Ybaf.prog 10 #[.pointer (some ⟨b, 20, none⟩), .slice (some ⟨t, 0, none⟩) 3 3] W fun e w'' => e = .returned (.tuple #[]) ∧ ∃ buf', Bd w'' b buf' head (n + 1) at' clen centry ∧ w''.ownsRow B 5 1 buf' (head + 12 * (n + 1)) (hd ++ bes (vs ++ [at', clen, centry])) ∧ Bk w w'' b 20 buf.ownBlock ∧ ∀ j, buf'.ownBlock = some j → buf.ownBlock = some j ∨ w.heap.size ≤ j) := fun W t hgX hs s0 s1 s2 => add_after h hown hgX hs s0 s1 s2 hB hn hh1 ha hc he
  have b1 : decide (0 < (n : Int)) = true := by simp; omega
  have w1 : IntKind.u32.wrap ((n : Int) - 1) = (n : Int) - 1 := by rw [IntKind.wrap_u32]; omega
  have h2 : ((u1 : Int) == (clen : Int)) = false := by simp; omega
  have h3 : (u1 == clen) = false := by simp [h1]
  have h4 : ¬ ((u1 : Int) = (clen : Int)) := by omega
  clear hown hl h
  have q27 := cell_regrown c27
  have q28 := cell_regrown c28
  have cF : ∀ d os, Calls Ybaf.prog 6 #[.pointer (some ⟨b, 20, none⟩), .int .u32 ((n : Int) - 1), .int .i64 1] (Go.Sort.grow (redrawn w d) os) fun e w'' => e = .returned (.int .u32 (u1 : Int)) ∧ ∃ p : Regrown, w'' = Go.Sort.grow (redrawn w p.d) p.os := fun d os => by
    have hb := below_regrown w d os
    refine (F1.out (Go.Sort.grow (redrawn w d) os) ⟨hb.os, hb.tape, hb.output, hb.size, fun k hk _ => hb.block k hk⟩).mono fun e w'' ⟨he, hg⟩ => ⟨he, regrown_of_below ⟨hg.os, hg.tape, hg.output, hg.size, fun k hk => hg.block k hk (by simp)⟩⟩
  go_enter Ybaf.func5, Ybaf.ntmps5
  go_wp2
  refine wp_region_quiet_below (by kernel_rfl) (by kernel_rfl) ?_
  repeat (go_big_quiet_step ((go_at_call 6; exact cF _ _)))
  refine wpQuiet_nil ?_
  intro _ hw'
  obtain ⟨⟨dq, osq⟩, hw''⟩ := hw'
  subst hw''
  have hb5 := below_regrown w dq osq
  have hgX : w.grownBy (Go.Sort.grow (redrawn w dq) osq) none := ⟨hb5.os, hb5.tape, hb5.output, hb5.size, fun k hk _ => hb5.block k hk⟩
  have x27 := hgX.cell c27 (by simp)
  have x28 := hgX.cell c28 (by simp)
  have x29 := hgX.cell c29 (by simp)
  clear q27 q28 hb5
  generalize Go.Sort.grow (redrawn w dq) osq = w5 at *
  go_wp2_with fail
  go_region_held3 (fun w' => w'.cell? ⟨b, 27, none⟩ = some (.int .u32 (at' : Int)) ∧ w'.cell? ⟨b, 28, none⟩ = some (.int .u32 (clen : Int)) ∧ w'.cell? ⟨b, 29, none⟩ = some (.int .u32 (centry : Int))) (first | (simp [go_sem, *]; done) | (refine ⟨cell?_alloc_old _ ?_, cell?_alloc_old _ ?_, cell?_alloc_old _ ?_⟩ <;> (first | assumption | (simp [go_sem, *]; done))) | skip) (first
    | (go_at_call 10; refine (HA.out _ _ ?_ ?_ ?_ ?_ ?_).mono ?_; (first | exact grown_drew (grown_alloc hgX _) | exact grown_alloc hgX _ | exact grown_alloc (grown_drew hgX) _); (exact hgX.size); (exact World.cell?_alloc_at _ _ _ _ rfl); (exact World.cell?_alloc_at _ _ _ _ rfl); (exact World.cell?_alloc_at _ _ _ _ rfl); rintro e w7 ⟨rfl, buf', hB7, hO7, hK7, hN7⟩; have z27 := hB7.c27; have z28 := hB7.c28; have z29 := hB7.c29))
  go_wp2
  go_end0
  exact ⟨rfl, buf', hB7, hO7, hK7, hN7⟩

end Go.Proofs.YbulksxoFmt.Bx
