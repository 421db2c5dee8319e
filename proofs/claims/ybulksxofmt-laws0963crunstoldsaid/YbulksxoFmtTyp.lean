import Derived.Test.YbulksxoFmtNew
import Derived.Test.YbulksxoFmtEqa
import Derived.Test.YbulksxoFmtRunD
namespace Go.Proofs.YbulksxoFmt.Bx
open Go Go.RowKit

set_option maxHeartbeats 4000000 in
/-- typ -/
theorem typ_any (w : World) (b o g n c : Nat) (x0 x1 x2 x3 : Int) (hn : 8 ≤ n) (hc : n ≤ c)
    (e0 : w.cell? ⟨b, o, none⟩ = some (.slice (some ⟨g, 0, none⟩) n c))
    (c4 : w.cell? ⟨g, 4, none⟩ = some (.int .u8 x0)) (c5 : w.cell? ⟨g, 5, none⟩ = some (.int .u8 x1)) (c6 : w.cell? ⟨g, 6, none⟩ = some (.int .u8 x2)) (c7 : w.cell? ⟨g, 7, none⟩ = some (.int .u8 x3)) :
    Calls Ybaf.prog 17 #[.pointer (some ⟨b, o, none⟩)] w fun e w' => e = .returned (.agg #[.int .u8 x0, .int .u8 x1, .int .u8 x2, .int .u8 x3]) ∧ w.grownBy w' none := by
  have hbl : b < w.heap.size := World.block_lt_of_cell? w _ e0
  have hgl : g < w.heap.size := World.block_lt_of_cell? w _ c4
  have hat : ∀ w, (Instr.arrayAt 43 (.slice (some ⟨g, 4, none⟩) 4 (c - 4))).run Ybaf.prog w = .ok (.pointer (some ⟨g, 4, none⟩)) w := fun w => by
    have h43 : Ybaf.prog.underlying 43 = some (.array 4 5) := by kernel_rfl
    simp [Instr.arrayAt, run_underlying h43]
  go_enter Ybaf.func17, Ybaf.ntmps17
  go_wp2
  refine bodyPost_ret_by (v := .agg #[.int .u8 x0, .int .u8 x1, .int .u8 x2, .int .u8 x3]) ?_ rfl ?_
  · have hres : Ybaf.f17.results = #[.cell 2 43] := by kernel_rfl
    simp only [results, hres]
    go_simp
  exact ⟨rfl, grown_alloc (grown_refl _ _) _⟩

set_option maxHeartbeats 4000000 in
/-- addChunk where the offset fits in 32 bits: stco stays. -/
theorem chunk_any (w : World) (B b g c N x : Nat) (hd : List Value) (L : List Nat) (h : Ebx w B b 24 1 g c N hd L) (hk : Kt w b) (hf : ∀ j, w.frozen? ⟨b, j, none⟩ = false) (hB : B ≤ w.heap.size) (hN : N ≤ 100000) (hh : hd.length = 16) (hx : x < 4294967296)
    (t0 : hd[4]? = some (.int .u8 115)) (t1 : hd[5]? = some (.int .u8 116)) (t2 : hd[6]? = some (.int .u8 99)) (t3 : hd[7]? = some (.int .u8 111))
    (g0 : w.cell? ⟨4, 0, none⟩ = some (.int .u8 115)) (g1 : w.cell? ⟨4, 1, none⟩ = some (.int .u8 116)) (g2 : w.cell? ⟨4, 2, none⟩ = some (.int .u8 99)) (g3 : w.cell? ⟨4, 3, none⟩ = some (.int .u8 111)) :
    Calls Ybaf.prog 11 #[.pointer (some ⟨b, 0, none⟩), .int .i64 (x : Int)] w fun e w' => e = .returned (.tuple #[]) ∧ ∃ g' c', Ebx w' B b 24 1 g' c' (N + 1) hd (L ++ [x]) ∧ Bk w w' b 24 (some g) ∧ (g' = g ∨ w.heap.size ≤ g') := by
  have hw64 : IntKind.u64.wrap (x : Int) = (x : Int) := by rw [IntKind.wrap_u64]; omega
  have hw32 : IntKind.u32.wrap (x : Int) = (x : Int) := by rw [IntKind.wrap_u32]; omega
  have hdl : decide ((x : Int) ≤ 4294967295) = true := by simp; omega
  have hcap : hd.length + 4 * L.length ≤ c := by
    rcases h.row.2 with ⟨h0, _⟩ | ⟨g', cap, cur, he, hb, hg, hc, _⟩
    · cases h0
    · cases he; exact hc
  have hcell : ∀ j v, hd[j]? = some v → w.cell? ⟨g, j, none⟩ = some v := fun j v hj => by
    have hlt : j < hd.length := by
      rcases Nat.lt_or_ge j hd.length with h1 | h1
      · exact h1
      · rw [List.getElem?_eq_none h1] at hj; cases hj
    rw [h.row.cellAt j (by omega), List.getElem?_append_left hlt, hj]
  have HF : Hid _ := calls_re (fun w' hw => (typ_any w' b 24 g (hd.length + 4 * L.length) c 115 116 99 111 (by omega) hcap (hw.cell h.e0 (by simp)) (hw.cell (hcell 4 _ t0) (by simp)) (hw.cell (hcell 5 _ t1) (by simp)) (hw.cell (hcell 6 _ t2) (by simp)) (hw.cell (hcell 7 _ t3) (by simp))).mono fun e w'' ⟨he, hg⟩ => ⟨he, grown_trans hw hg⟩)
  have HA : Hid (∀ (w' : World) (s : Nat), w.grownBy w' none → w.heap.size ≤ s → w'.cell? ⟨s, 0, none⟩ = some (.int .u32 (x : Int)) → Calls Ybaf.prog 10 #[.pointer (some ⟨b, 24, none⟩), .slice (some ⟨s, 0, none⟩) 1 1] w' fun e w'' => e = .returned (.tuple #[]) ∧ ∃ g' c', Ebx w'' B b 24 1 g' c' (N + 1) hd (L ++ [x]) ∧ Bk w w'' b 24 (some g) ∧ (g' = g ∨ w.heap.size ≤ g')) := fun w' s hg hs s0 =>
    add_box w w' B b 24 1 g c N s hd L [x] h hk hf hB (by omega) (by omega) (by omega) (by omega) rfl (by intro u hu; simp at hu; omega) hg hs (fun j hj => by
      match j, hj with
      | 0, _ => exact s0)
  have heq := fun w' => eq4 w' 115 116 99 111
  have q0 := cell_regrown g0
  have q1 := cell_regrown g1
  have q2 := cell_regrown g2
  have q3 := cell_regrown g3
  clear h hcell hcap t0 t1 t2 t3
  go_enter Ybaf.func11, Ybaf.ntmps11
  go_wp2_with fail
  refine wp_region_quiet_below (by kernel_rfl) (by kernel_rfl) ?_
  repeat (go_big_quiet_step ((go_at_call 17; exact HF.out _ _)))
  refine wpQuiet_nil ?_
  intro _ hw'
  obtain ⟨⟨dq, osq⟩, hw''⟩ := hw'
  subst hw''
  have hg1 := grown_re w dq osq
  clear q0 q1 q2 q3 HF
  generalize Go.Sort.grow (redrawn w dq) osq = w1 at *
  have hsz := hg1.size
  go_wp2_with fail
  refine (HA.out _ _ ?_ ?_ ?_).mono ?_
  · exact grown_alloc hg1 _
  · exact hsz
  · simp
  rintro e w5 ⟨rfl, g', c', hE, hBk, hn⟩
  go_wp2
  refine bodyPost_ret (results_none rfl _ _ _) rfl ?_
  exact ⟨rfl, g', c', hE, hBk, hn⟩

end Go.Proofs.YbulksxoFmt.Bx
