import Derived.Test.YbulksxoFmtRunC
namespace Go.Proofs.YbulksxoFmt.Bx
open Go Go.RowKit

set_option maxHeartbeats 4000000 in
/-- addRun where there is no run yet. -/
theorem run_first (w : World) (B b o g c v : Nat) (hd : List Value) (L : List Nat) (h : Ebx w B b o 2 g c 0 hd L) (hk : Kt w b) (hf : ∀ j, w.frozen? ⟨b, j, none⟩ = false) (hB : B ≤ w.heap.size) (hh : hd.length ≤ 100) (hv : v < 4294967296) :
    Calls Ybaf.prog 9 #[.pointer (some ⟨b, o, none⟩), .int .u32 (v : Int)] w fun e w' => e = .returned (.tuple #[]) ∧ ∃ g' c', Ebx w' B b o 2 g' c' 1 hd (L ++ [1, v]) ∧ Bk w w' b o (some g) ∧ (g' = g ∨ w.heap.size ≤ g') := by
  have e0 := h.e0
  have e3 := h.e3
  generalize hx : hd.length + 4 * L.length = x at e0
  have HA : Hid (∀ (w' : World) (s : Nat), w.grownBy w' none → w.heap.size ≤ s → w'.cell? ⟨s, 0, none⟩ = some (.int .u32 1) → w'.cell? ⟨s, 1, none⟩ = some (.int .u32 (v : Int)) → Calls Ybaf.prog 10 #[.pointer (some ⟨b, o, none⟩), .slice (some ⟨s, 0, none⟩) 2 2] w' fun e w'' => e = .returned (.tuple #[]) ∧ ∃ g' c', Ebx w'' B b o 2 g' c' 1 hd (L ++ [1, v]) ∧ Bk w w'' b o (some g) ∧ (g' = g ∨ w.heap.size ≤ g')) := fun w' s hg hs s0 s1 =>
    add_box w w' B b o 2 g c 0 s hd L [1, v] h hk hf hB (by omega) hh (by omega) (by omega) rfl (by intro u hu; simp at hu; omega) hg hs (fun j hj => by
      match j, hj with
      | 0, _ => exact s0
      | 1, _ => exact s1)
  have HX : Hid _ := hx
  clear hx h
  go_enter Ybaf.func9, Ybaf.ntmps9
  go_wp2_with fail
  go_quiet (fail)
  go_wp2_with fail
  refine (HA.out _ _ ?_ ?_ ?_ ?_).mono ?_
  · exact grown_alloc (grown_drewN (grown_refl _ _) _) _
  · exact Nat.le_refl _
  · exact (World.cell?_alloc_at _ _ _ _ rfl).trans rfl
  · exact (World.cell?_alloc_at _ _ _ _ rfl).trans rfl
  rintro e w5 ⟨rfl, g', c', hE, hBk, hn⟩
  go_wp2
  go_end0
  exact ⟨rfl, g', c', hE, hBk, hn⟩

set_option maxHeartbeats 4000000 in
/-- addRun where the last run has another value. -/
theorem run_new (w : World) (B b o g c N v : Nat) (hd : List Value) (L : List Nat) (h : Ebx w B b o 2 g c N hd L) (hk : Kt w b) (hf : ∀ j, w.frozen? ⟨b, j, none⟩ = false) (hB : B ≤ w.heap.size) (hN0 : 0 < N) (hN : N ≤ 100000) (hh : hd.length ≤ 100) (hcap : hd.length + 4 * L.length ≤ c) (hv : v < 4294967296) (hne' : L.getD (2 * N - 1) 0 ≠ v) :
    Calls Ybaf.prog 9 #[.pointer (some ⟨b, o, none⟩), .int .u32 (v : Int)] w fun e w' => e = .returned (.tuple #[]) ∧ ∃ g' c', Ebx w' B b o 2 g' c' (N + 1) hd (L ++ [1, v]) ∧ Bk w w' b o (some g) ∧ (g' = g ∨ w.heap.size ≤ g') := by
  have hl := h.len
  obtain ⟨x, hx⟩ : ∃ x, hd.length + 4 * L.length = x + 8 := ⟨hd.length + 4 * L.length - 8, by omega⟩
  have e0 := h.e0
  have e3 := h.e3
  have hrow := h.row
  rw [hx] at e0 hrow hcap
  have f1 := calls_re (row_u32 hrow h.bd (2 * N - 1) (x + 4) 4 (c - (x + 4)) (by omega) (by omega) (by omega))
  generalize hlast : L.getD (2 * N - 1) 0 = last at *
  have hbq : ((last : Int) == (v : Int)) = false := by simp; omega
  have F1 : Hid _ := f1
  have HA : Hid (∀ (w' : World) (s : Nat), w.grownBy w' none → w.heap.size ≤ s → w'.cell? ⟨s, 0, none⟩ = some (.int .u32 1) → w'.cell? ⟨s, 1, none⟩ = some (.int .u32 (v : Int)) → Calls Ybaf.prog 10 #[.pointer (some ⟨b, o, none⟩), .slice (some ⟨s, 0, none⟩) 2 2] w' fun e w'' => e = .returned (.tuple #[]) ∧ ∃ g' c', Ebx w'' B b o 2 g' c' (N + 1) hd (L ++ [1, v]) ∧ Bk w w'' b o (some g) ∧ (g' = g ∨ w.heap.size ≤ g')) := fun w' s hg hs s0 s1 =>
    add_box w w' B b o 2 g c N s hd L [1, v] h hk hf hB (by omega) hh (by omega) (by omega) rfl (by intro u hu; simp at hu; omega) hg hs (fun j hj => by
      match j, hj with
      | 0, _ => exact s0
      | 1, _ => exact s1)
  have q0 := cell_regrown e0
  have q3 := cell_regrown e3
  have dn : decide (0 < (N : Int)) = true := by simp; omega
  have c4 : ¬ c = x + 4 := by omega
  have hx0 : x ≤ 100000000 := by omega
  have hcx : x + 8 ≤ c := hcap
  have HX : Hid _ := hx
  have HL : Hid _ := hl
  have HV : Hid _ := hlast
  clear f1 hx hl hlast hne' h
  go_enter Ybaf.func9, Ybaf.ntmps9
  go_wp2_with fail
  refine wp_region_quiet_below (by kernel_rfl) (by kernel_rfl) ?_
  repeat (go_big_quiet_step ((go_at_call 12; exact F1.out _ _)))
  refine wpQuiet_nil ?_
  intro _ hw'
  obtain ⟨⟨dq, osq⟩, hw''⟩ := hw'
  subst hw''
  have hg1 := grown_re w dq osq
  clear q0 q3 F1 e3
  generalize Go.Sort.grow (redrawn w dq) osq = w1 at *
  have hsz := hg1.size
  go_wp2_with fail
  refine (HA.out _ _ ?_ ?_ ?_ ?_).mono ?_
  · exact grown_alloc hg1 _
  · exact hsz
  · simp
  · simp
  rintro e w5 ⟨rfl, g', c', hE, hBk, hn⟩
  go_wp2
  go_end0
  exact ⟨rfl, g', c', hE, hBk, hn⟩

end Go.Proofs.YbulksxoFmt.Bx
