import Derived.Test.YbulksxoFmtRun
import Derived.Lib.QuietBelow
namespace Go.Proofs.YbulksxoFmt.Bx
open Go Go.RowKit

theorem grown_re (w : World) (d : Nat) (os : Array Obj) : w.grownBy (Go.Sort.grow (redrawn w d) os) none :=
  have hb := below_regrown w d os
  ⟨hb.os, hb.tape, hb.output, hb.size, fun k hk _ => hb.block k hk⟩
theorem calls_re {P : Program} {f : FuncId} {args : Array Value} {w : World} {v : Value} (h : ∀ w', w.grownBy w' none → Calls P f args w' fun e w'' => e = .returned v ∧ w.grownBy w'' none) : ∀ d os, Calls P f args (Go.Sort.grow (redrawn w d) os) fun e w'' => e = .returned v ∧ ∃ p : Regrown, w'' = Go.Sort.grow (redrawn w p.d) p.os :=
  fun d os => (h _ (grown_re w d os)).mono fun _ _ ⟨he, hg⟩ => ⟨he, regrown_of_below ⟨hg.os, hg.tape, hg.output, hg.size, fun k hk => hg.block k hk (by simp)⟩⟩

set_option maxHeartbeats 4000000 in
/-- addRun where the last run has the value: one more sample in it. -/
theorem run_more (w : World) (B b o g c N v : Nat) (hd : List Value) (L : List Nat) (h : Ebx w B b o 2 g c N hd L) (hk : Kt w b) (hN0 : 0 < N) (hN : N ≤ 100000) (hh : hd.length ≤ 100) (hcap : hd.length + 4 * L.length ≤ c) (hv : L.getD (2 * N - 1) 0 = v) :
    Calls Ybaf.prog 9 #[.pointer (some ⟨b, o, none⟩), .int .u32 (v : Int)] w fun e w' => e = .returned (.tuple #[]) ∧ ∃ L', Ebx w' B b o 2 g c N hd L' ∧ w.grownBy w' (some g) := by
  have hl := h.len
  have hne := hk.ne h.row
  obtain ⟨x, hx⟩ : ∃ x, hd.length + 4 * L.length = x + 8 := ⟨hd.length + 4 * L.length - 8, by omega⟩
  have e0 := h.e0
  have e3 := h.e3
  have hrow := h.row
  rw [hx] at e0 hrow hcap
  have f1 := calls_re (row_u32 hrow h.bd (2 * N - 1) (x + 4) 4 (c - (x + 4)) (by omega) (by omega) (by omega))
  rw [hv] at f1
  have F1 : Hid _ := f1
  have fu := row_u32 hrow h.bd (2 * N - 2) x 8 (c - x) (by omega) (by omega) (by omega)
  have HU : Hid _ := fu
  have hb2 : L.getD (2 * N - 2) 0 < 4294967296 := by rw [List.getD, List.getElem?_eq_getElem (by omega)]; exact h.bd _ (List.getElem_mem _)
  have HP : Hid (∀ w', w.grownBy w' none → Calls Ybaf.prog 15 #[.agg #[], .slice (some ⟨g, x, none⟩) 8 (c - x), .int .u32 (IntKind.u32.wrap ((L.getD (2 * N - 2) 0 : Nat) + 1 : Int))] w' fun e w'' => e = .returned (.tuple #[]) ∧ w''.ownsRow B 5 1 (.slice (some ⟨g, 0, none⟩) (x + 8) c) (x + 8) (hd ++ bes (L.set (2 * N - 2) ((L.getD (2 * N - 2) 0 + 1) % 4294967296))) ∧ w.grownBy w'' (some g)) := fun w' hw => by
    have e : IntKind.u32.wrap ((L.getD (2 * N - 2) 0 : Nat) + 1 : Int) = ((L.getD (2 * N - 2) 0 + 1) % 4294967296 : Nat) := by rw [IntKind.wrap_u32]; omega
    rw [e]
    exact (put_any w' B g (x + 8) c (2 * N - 2) ((L.getD (2 * N - 2) 0 + 1) % 4294967296) hd L (by omega) (hrow.kept hw (by right; simp [Value.ownBlock])) (by omega) x (by omega) 8 (c - x) (by omega)).mono fun e w'' ⟨he, ho, hg⟩ => ⟨he, ho, grown_trans (grown_some hw _) hg⟩
  clear fu
  have hsl8 : ∀ w', (Instr.slice 25 (.slice (some ⟨g, 0, none⟩) (x + 8) c) (some (.int .i64 (x : Int))) none none).run Ybaf.prog w' = .ok (.slice (some ⟨g, x, none⟩) 8 (c - x)) w' := fun w' => by
    have := slice_from w' g (x + 8) c x (x : Int) rfl (by omega) hcap
    rwa [show x + 8 - x = 8 by omega] at this
  have hw8 : IntKind.i64.wrap ((x : Int) + 8 - 8) = (x : Int) := by rw [IntKind.wrap_i64]; omega
  have hw9 : IntKind.i64.wrap (x : Int) = (x : Int) := by rw [IntKind.wrap_i64]; omega
  have q0 := cell_regrown e0
  have q3 := cell_regrown e3
  have dn : decide (0 < (N : Int)) = true := by simp; omega
  have c4 : ¬ c = x + 4 := by omega
  have c8 : ¬ c = x := by omega
  have hx0 : x ≤ 100000000 := by omega
  have hcx : x + 8 ≤ c := hcap
  have HX : Hid _ := hx
  have HL : Hid _ := hl
  have HV : Hid _ := hv
  clear f1 hx hl hv
  go_enter Ybaf.func9, Ybaf.ntmps9
  go_wp2_with fail
  refine wp_region_quiet_below (by kernel_rfl) (by kernel_rfl) ?_
  repeat (go_big_quiet_step ((go_at_call 12; exact F1.out _ _)))
  refine wpQuiet_nil ?_
  intro _ hw'
  obtain ⟨⟨dq, osq⟩, hw''⟩ := hw'
  subst hw''
  have hg1 := grown_re w dq osq
  have r0 := hg1.cell e0 (by simp)
  have hk1 := hk.of (hg1.block b hk.lt (by simp))
  clear q0 q3 F1 e3
  generalize Go.Sort.grow (redrawn w dq) osq = w1 at *
  go_wp2_with fail
  go_region_held3 (fun w' => w'.cell? ⟨b, o, none⟩ = some (.slice (some ⟨g, 0, none⟩) (x + 8) c)) (first | (simp [go_sem, *]; done) | skip) (first
    | (go_at_call 12; refine (HU.out _ ?_).mono ?_; (first | exact hg1 | exact grown_drew hg1); rintro e w5 ⟨rfl, hg5⟩; have y0 := hg5.cell e0 (by simp))
    | (go_at_call 15; refine (HP.out _ ?_).mono ?_; (first | exact hg5 | exact grown_drew hg5); rintro e w6 ⟨rfl, ho6, hg6⟩; have z0 := hg6.cell e0 hne))
  go_wp2
  refine bodyPost_ret (results_none rfl _ _ _) rfl ?_
  have hl2 : (L.set (2 * N - 2) ((L.getD (2 * N - 2) 0 + 1) % 4294967296)).length = L.length := List.length_set
  refine ⟨rfl, L.set (2 * N - 2) ((L.getD (2 * N - 2) 0 + 1) % 4294967296), ⟨?_, hg6.cell h.e3 hne, ?_, by rw [hl2]; exact HL.out, ?_⟩, hg6⟩
  · rw [hl2, HX.out]; exact z0
  · rw [hl2, HX.out]; exact ho6
  · intro u hu
    rcases List.mem_or_eq_of_mem_set hu with h1 | h1
    · exact h.bd u h1
    · omega

end Go.Proofs.YbulksxoFmt.Bx
