import Derived.Test.YbulksxoFmtAdd
namespace Go.Proofs.YbulksxoFmt.Bx
open Go Go.RowKit

/-- The builder's cells that endChunk looks at. -/
structure Bd (w : World) (b : Nat) (buf : Value) (head n at' clen centry : Nat) : Prop where
  kt : Kt w b
  fz : ∀ j, w.frozen? ⟨b, j, none⟩ = false
  c20 : w.cell? ⟨b, 20, none⟩ = some buf
  c21 : w.cell? ⟨b, 21, none⟩ = some (.int .i64 (head : Int))
  c22 : w.cell? ⟨b, 22, none⟩ = some (.int .i64 12)
  c23 : w.cell? ⟨b, 23, none⟩ = some (.int .u32 (n : Int))
  c27 : w.cell? ⟨b, 27, none⟩ = some (.int .u32 (at' : Int))
  c28 : w.cell? ⟨b, 28, none⟩ = some (.int .u32 (clen : Int))
  c29 : w.cell? ⟨b, 29, none⟩ = some (.int .u32 (centry : Int))
theorem Bd.later {w w1 : World} {b : Nat} {buf : Value} {head n at' clen centry : Nat} {r : Option Nat} (h : Bd w b buf head n at' clen centry) (k : w.grownBy w1 r) (hr : some b ≠ r) : Bd w1 b buf head n at' clen centry :=
  have e := k.block b h.kt.lt hr
  ⟨h.kt.of e, fun j => (World.frozen?_of_block e).trans (h.fz j), k.cell h.c20 hr, k.cell h.c21 hr, k.cell h.c22 hr, k.cell h.c23 hr, k.cell h.c27 hr, k.cell h.c28 hr, k.cell h.c29 hr⟩

/-- A number of the last entry. -/
theorem last_field {w : World} {B b head n at' clen centry : Nat} {buf : Value} {hd : List Value} {vs : List Nat} (h : Bd w b buf head n at' clen centry) (hown : w.ownsRow B 5 1 buf (head + 12 * n) (hd ++ bes vs)) (hh : hd.length = head) (hh1 : head ≤ 100) (hl : vs.length = 3 * n) (hn : n ≤ 100000) (hv : ∀ v ∈ vs, v < 4294967296) (i f : Nat) (hi : i < n) (hf : f < 3) :
    ∀ w', w.grownBy w' none → Calls Ybaf.prog 6 #[.pointer (some ⟨b, 20, none⟩), .int .u32 (i : Int), .int .i64 (f : Int)] w' fun e w'' => e = .returned (.int .u32 (vs.getD (3 * i + f) 0 : Nat)) ∧ w.grownBy w'' none := by
  intro w' hw
  have h' := h.later hw (by simp)
  have ho' := hown.kept hw (by by_cases h0 : buf.ownBlock = none <;> simp [h0])
  have hcell : ∀ j, j < head + 12 * n → ∀ g c, buf = .slice (some ⟨g, 0, none⟩) (head + 12 * n) c → w'.cell? ⟨g, j, none⟩ = (hd ++ bes vs)[j]? := fun j hj g c e => by
    subst e
    exact ho'.cellAt j (by omega)
  rcases hown.2 with ⟨rfl, h0⟩ | ⟨g, cap, cur, rfl, _, hg, hcap, _⟩
  · omega
  · refine (field_any w' b 20 g (head + 12 * n) cap head i f (head + i * 12 + 4 * f) (vs.getD (3 * i + f) 0) ?_ hh1 (by omega) (by omega) rfl (by omega) hcap h'.c20 h'.c21 h'.c22 (fun j hj => ?_)).mono fun e w'' ⟨he, hg⟩ => ⟨he, grown_trans hw hg⟩
    · rw [List.getD, List.getElem?_eq_getElem (by omega)]
      exact hv _ (List.getElem_mem _)
    · rw [hcell _ (by omega) g cap rfl, List.getElem?_append_right (by omega), show head + i * 12 + 4 * f + j - hd.length = 4 * (3 * i + f) + j by omega, bes_get vs (3 * i + f) j (by omega) hj]

set_option maxHeartbeats 4000000 in
theorem end_skip (w : World) (B b head n at' clen centry : Nat) (buf : Value) (hd : List Value) (vs : List Nat) (h : Bd w b buf head n at' clen centry) (hown : w.ownsRow B 5 1 buf (head + 12 * n) (hd ++ bes vs)) (hh : hd.length = head) (hh1 : head ≤ 100) (hl : vs.length = 3 * n) (hn : n ≤ 100000) (hv : ∀ v ∈ vs, v < 4294967296)
    (hs : at' = 0 ∨ (0 < n ∧ vs.getD (3 * (n - 1) + 1) 0 = clen ∧ vs.getD (3 * (n - 1) + 2) 0 = centry)) :
    Calls Ybaf.prog 5 #[.pointer (some ⟨b, 0, none⟩)] w fun e w' => e = .returned (.tuple #[]) ∧ w.grownBy w' none := by
  obtain ⟨kt, fz, c20, c21, c22, c23, c27, c28, c29⟩ := id h
  by_cases h0 : at' = 0
  · subst h0
    clear hs hown hl hv
    go_enter Ybaf.func5, Ybaf.ntmps5
    go_wp2
    go_quiet (fail)
    go_wp2
    refine bodyPost_ret (results_none rfl _ _ _) rfl ?_
    exact ⟨rfl, grown_drewN (grown_refl _ _) _⟩
  · obtain ⟨hn0, h1, h2⟩ := hs.resolve_left h0
    have e1 : ((n - 1 : Nat) : Int) = (n : Int) - 1 := by omega
    have F1 : Hid (∀ w', w.grownBy w' none → Calls Ybaf.prog 6 #[.pointer (some ⟨b, 20, none⟩), .int .u32 ((n : Int) - 1), .int .i64 1] w' fun e w'' => e = .returned (.int .u32 (clen : Int)) ∧ w.grownBy w'' none) := by
      have := last_field h hown hh hh1 hl hn hv (n - 1) 1 (by omega) (by decide)
      rw [h1, e1] at this
      exact this
    have F2 : Hid (∀ w', w.grownBy w' none → Calls Ybaf.prog 6 #[.pointer (some ⟨b, 20, none⟩), .int .u32 ((n : Int) - 1), .int .i64 2] w' fun e w'' => e = .returned (.int .u32 (centry : Int)) ∧ w.grownBy w'' none) := by
      have := last_field h hown hh hh1 hl hn hv (n - 1) 2 (by omega) (by decide)
      rw [h2, e1] at this
      exact this
    have w1 : IntKind.u32.wrap ((n : Int) - 1) = (n : Int) - 1 := by rw [IntKind.wrap_u32]; omega
    have b0 : ((at' : Int) == 0) = false := by simp; omega
    have b1 : decide (0 < (n : Int)) = true := by simp; omega
    clear hs hown hl hv h1 h2 e1 h
    go_enter Ybaf.func5, Ybaf.ntmps5
    go_wp2
    go_region_held3 (fun w' => w'.cell? ⟨b, 27, none⟩ = some (.int .u32 (at' : Int)) ∧ w'.cell? ⟨b, 28, none⟩ = some (.int .u32 (clen : Int)) ∧ w'.cell? ⟨b, 29, none⟩ = some (.int .u32 (centry : Int))) (first | (simp [go_sem, *]; done) | skip) (first
      | (go_at_call_of 6 (Value.int IntKind.i64 1); refine (F1.out _ ?_).mono ?_; (first | exact grown_refl _ _ | exact grown_drew (grown_refl _ _)); rintro e w5 ⟨rfl, hg5⟩; have x27 := hg5.cell c27 (by simp); have x28 := hg5.cell c28 (by simp); have x29 := hg5.cell c29 (by simp))
      | (go_at_call_of 6 (Value.int IntKind.i64 2); refine (F2.out _ hg5).mono ?_; rintro e w6 ⟨rfl, hg6⟩; have y27 := hg6.cell c27 (by simp); have y28 := hg6.cell c28 (by simp); have y29 := hg6.cell c29 (by simp)))
    go_wp2
    refine bodyPost_ret (results_none rfl _ _ _) rfl ?_
    exact ⟨rfl, hg6⟩

/-- 'add' of the three, behind whatever grew, the fields laid. -/
theorem add_after {w w' : World} {B b s head n at' clen centry : Nat} {buf : Value} {hd : List Value} {vs : List Nat} (h : Bd w b buf head n at' clen centry) (hown : w.ownsRow B 5 1 buf (head + 12 * n) (hd ++ bes vs)) (hg1 : w.grownBy w' none) (hs : w.heap.size ≤ s) (s0 : w'.cell? ⟨s, 0, none⟩ = some (.int .u32 (at' : Int))) (s1 : w'.cell? ⟨s, 1, none⟩ = some (.int .u32 (clen : Int))) (s2 : w'.cell? ⟨s, 2, none⟩ = some (.int .u32 (centry : Int))) (hB : B ≤ w.heap.size) (hn : n ≤ 100000) (hh1 : head ≤ 100) (ha : at' < 4294967296) (hc : clen < 4294967296) (he : centry < 4294967296) :
    Calls Ybaf.prog 10 #[.pointer (some ⟨b, 20, none⟩), .slice (some ⟨s, 0, none⟩) 3 3] w' fun e w'' => e = .returned (.tuple #[]) ∧ ∃ buf', Bd w'' b buf' head (n + 1) at' clen centry ∧ w''.ownsRow B 5 1 buf' (head + 12 * (n + 1)) (hd ++ bes (vs ++ [at', clen, centry])) ∧ Bk w w'' b 20 buf.ownBlock ∧ ∀ j, buf'.ownBlock = some j → buf.ownBlock = some j ∨ w.heap.size ≤ j := by
  have h1 := h.later hg1 (by simp)
  have ho := hown.kept hg1 (by by_cases h0 : buf.ownBlock = none <;> simp [h0])
  have hlt := h.kt.lt
  have hsz := hg1.size
  have hsr : some s ≠ buf.ownBlock := fun e => by
    have := (hown.lt _ e.symm).2
    omega
  refine (add_any _ B b 20 s (head + 12 * n) n buf _ [at', clen, centry] (by intro v hv; simp at hv; rcases hv with rfl | rfl | rfl <;> assumption) (by simp) (by omega) (by omega) (by omega) h1.kt (by omega) hsr ?_ h1.fz ho h1.c20 h1.c23).mono ?_
  · intro j hj
    match j, hj with
    | 0, _ => exact s0
    | 1, _ => exact s1
    | 2, _ => exact s2
  · rintro e w'' ⟨rfl, buf', q0, q3, ho2, hk, hnb⟩
    refine ⟨rfl, buf', ⟨hk.kt h1.kt, hk.fz h1.fz, q0, hk.cells _ _ (by decide) (by decide) h1.c21, hk.cells _ _ (by decide) (by decide) h1.c22, q3, hk.cells _ _ (by decide) (by decide) h1.c27, hk.cells _ _ (by decide) (by decide) h1.c28, hk.cells _ _ (by decide) (by decide) h1.c29⟩, ?_, ?_, fun j hj => (hnb j hj).imp id (fun h => Nat.le_trans hsz h)⟩
    · rw [List.append_assoc, ← bes_append] at ho2
      have e1 : head + 12 * (n + 1) = head + 12 * n + 4 * [at', clen, centry].length := by simp; omega
      rw [e1]; exact ho2
    · exact ⟨hk.os.trans hg1.os, hk.tape.trans hg1.tape, hk.output.trans hg1.output, Nat.le_trans hg1.size hk.size, fun k hk1 h2 h3 => (hk.block k (Nat.lt_of_lt_of_le hk1 hg1.size) h2 h3).trans (hg1.block k hk1 (by simp)), fun p v h2 h3 hc => hk.cells p v h2 h3 (hg1.cell hc (by simp)), fun hf => hk.fz fun j => (World.frozen?_of_block (hg1.block b hlt (by simp))).trans (hf j), fun hkt => hk.kt (hkt.of (hg1.block b hlt (by simp)))⟩

end Go.Proofs.YbulksxoFmt.Bx
