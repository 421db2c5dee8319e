import Derived.Test.YbulksxoEndD
namespace Go.Proofs.Ybulksxo.Bx
open Go Go.RowKit

/-- A row of numbers in a block of its own. -/
structure Rw (w : World) (g n c : Nat) (L : List Nat) : Prop where
  len : n = 4 * L.length
  cap : n ≤ c
  cells : ∀ k j, k < L.length → j < 4 → w.cell? ⟨g, 4 * k + j, none⟩ = (be (L.getD k 0))[j]?
  bound : ∀ v ∈ L, v < 4294967296
  small : n ≤ 100000000
theorem Rw.later {w w' : World} {g n c : Nat} {L : List Nat} (h : Rw w g n c L) (k : w.grownBy w' none) : Rw w' g n c L := by
  refine ⟨h.len, h.cap, fun i j hi hj => ?_, h.bound, h.small⟩
  have h1 := h.cells i j hi hj
  have hs : ∃ u, (be (L.getD i 0))[j]? = some u := ⟨_, List.getElem?_eq_getElem (by rw [be_len]; exact hj)⟩
  obtain ⟨u, hu⟩ := hs
  rw [hu] at h1 ⊢
  exact k.cell h1 (by simp)
theorem Rw.of {w : World} {B g n c : Nat} {L : List Nat} (h : w.ownsRow B 5 1 (.slice (some ⟨g, 0, none⟩) n c) n (bes L)) (hn : n = 4 * L.length) (hb : ∀ v ∈ L, v < 4294967296) (hs : n ≤ 100000000) : Rw w g n c L := by
  refine ⟨hn, ?_, fun k j hk hj => ?_, hb, hs⟩
  · rcases h.2 with ⟨h1, _⟩ | ⟨g', cap, cur, h1, _, _, h2, _⟩
    · cases h1
    · cases h1; exact h2
  · rw [h.cellAt (4 * k + j) (by omega), bes_get L k j hk hj]

set_option maxHeartbeats 2000000 in
theorem get_any (w : World) (g n c k : Nat) (L : List Nat) (h : Rw w g n c L) (hk : k < L.length) (y : Int) (hy : y = k) :
    Calls Yba.prog 6 #[.slice (some ⟨g, 0, none⟩) n c, .int .i64 y] w fun e w' => e = .returned (.tuple #[.int .u32 (L.getD k 0 : Nat), .bool true]) ∧ w.grownBy w' none := by
  have hn := h.len
  have hsm := h.small
  have hsl := fun w' => slice_from w' g n c (4 * k) (4 * y) (by omega) (by omega) h.cap
  have hu : ∀ w', w.grownBy w' none → Calls Yba.prog 9 #[.agg #[], .slice (some ⟨g, 4 * k, none⟩) (n - 4 * k) (c - 4 * k)] w' fun e w'' => e = .returned (.int .u32 (L.getD k 0 : Nat)) ∧ w.grownBy w'' none := fun w' hw => (u32_any w' g (4 * k) (n - 4 * k) (c - 4 * k) (L.getD k 0) (by rw [List.getD, List.getElem?_eq_getElem hk]; exact h.bound _ (List.getElem_mem _)) (by omega) (fun j hj => (h.later hw).cells k j hk hj)).mono fun e w'' ⟨he, hg⟩ => ⟨he, grown_trans hw hg⟩
  have cF : ∀ d os, Calls Yba.prog 9 #[.agg #[], .slice (some ⟨g, 4 * k, none⟩) (n - 4 * k) (c - 4 * k)] (Go.Sort.grow (redrawn w d) os) fun e w'' => e = .returned (.int .u32 (L.getD k 0 : Nat)) ∧ ∃ p : Regrown, w'' = Go.Sort.grow (redrawn w p.d) p.os := fun d os => by
    have hb := below_regrown w d os
    refine (hu (Go.Sort.grow (redrawn w d) os) ⟨hb.os, hb.tape, hb.output, hb.size, fun k hk _ => hb.block k hk⟩).mono fun e w'' ⟨he, hg⟩ => ⟨he, regrown_of_below ⟨hg.os, hg.tape, hg.output, hg.size, fun k hk => hg.block k hk (by simp)⟩⟩
  have HF : Hid _ := cF
  have d0 : decide (y < 0) = false := by simp; omega
  have w1 : IntKind.i64.wrap (4 * y) = 4 * y := by rw [IntKind.wrap_i64]; omega
  have w2 : IntKind.i64.wrap (4 * y + 4) = 4 * y + 4 := by rw [IntKind.wrap_i64]; omega
  have d1 : decide ((n : Int) < 4 * y + 4) = false := by simp; omega
  have hk4 : 4 * k + 4 ≤ n := by omega
  have hcap := h.cap
  have hne : ¬ c = 4 * k := by omega
  generalize L.getD k 0 = v at *
  clear hu cF h hn hk hsl
  subst hy
  go_enter Yba.func6, Yba.ntmps6
  go_wp2_with fail
  refine wp_region_quiet_below (by kernel_rfl) (by kernel_rfl) ?_
  repeat (go_big_quiet_step ((go_at_call 9; exact HF.out _ _)))
  refine wpQuiet_nil ?_
  intro _ hw'
  obtain ⟨⟨dq, osq⟩, hw''⟩ := hw'
  subst hw''
  have hb5 := below_regrown w dq osq
  go_wp2
  go_ret2
  exact ⟨rfl, ⟨hb5.os, hb5.tape, hb5.output, hb5.size, fun k hk _ => hb5.block k hk⟩⟩

end Go.Proofs.Ybulksxo.Bx
