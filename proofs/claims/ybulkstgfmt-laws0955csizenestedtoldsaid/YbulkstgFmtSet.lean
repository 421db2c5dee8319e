import Derived.Test.YbulkstgFmtElem
namespace Go.Proofs.YbulkstgFmt.Tk
open Go Go.RowKit

theorem info34 : (Ybaf.prog.info? 34).map (fun i => (i.zero, i.size, i.bytes)) = some (some (.pointer none), 1, 8) := by kernel_rfl
theorem info66 : (Ybaf.prog.info? 66).map (fun i => (i.zero, i.size, i.bytes)) = some (some (.slice none 0 0), 1, 24) := by kernel_rfl

/-- A row of one cell that an append onto nothing has made. -/
theorem one_row {w : World} {base e : Nat} {v x : Value} (h : w.ownsRow base e 1 v 1 [x]) : ∃ u cu, v = .slice (some ⟨u, 0, none⟩) 1 cu ∧ base ≤ u ∧ u < w.heap.size ∧ w.cell? ⟨u, 0, none⟩ = some x := by
  rcases h.2 with ⟨_, h'⟩ | ⟨u, cu, cur, rfl, hb, hh, _⟩
  · cases h'
  · exact ⟨u, cu, rfl, hb, (h.lt u rfl).2, by rw [h.cellAt 0 (by decide)]; rfl⟩

/-- What 'element' does at a plain value. -/
def ElemOk (B g n c : Nat) (T : Nat → Tok) (i i' : Nat) : Prop := ∀ w, Ps w B g n c T i →
  Calls Ybaf.prog 7 #[.pointer (some ⟨B, 0, none⟩)] w fun e w' => ∃ E, e = .returned (.tuple #[.pointer (some ⟨E, 0, none⟩), .nilIface]) ∧ w.heap.size ≤ E ∧
      El w' E 0 (tokAt n T i).file (tokAt n T i).line (tokAt n T i).col (.slice (some ⟨g, i * 5, none⟩) (i' - i) (c - i)) (.slice none 0 0) (.slice none 0 0) false false (.pointer none) (.pointer none) ∧ w.grownBy w' (some B) ∧ Ps w' B g n c T i'

structure NoSet (t : Tok) : Prop where
  s0 : tis t ⟨#[94]⟩ = false
  s1 : tis t ⟨#[73, 78, 84, 69, 82, 83, 69, 67, 84, 73, 79, 78]⟩ = false
  s2 : tis t ⟨#[124]⟩ = false
  s3 : tis t ⟨#[85, 78, 73, 79, 78]⟩ = false
  s4 : tis t ⟨#[69, 88, 67, 69, 80, 84]⟩ = false
  s5 : tis t ⟨#[44]⟩ = false

set_option maxHeartbeats 1000000 in
theorem set_one (w : World) (B g n c i i' : Nat) (T : Nat → Tok) (h : Ps w B g n c T i) (he : ElemOk B g n c T i i') (hn : NoSet (tokAt n T i')) :
    Calls Ybaf.prog 25 #[.pointer (some ⟨B, 0, none⟩)] w fun e w' => ∃ S u cu v cv E, e = .returned (.tuple #[.pointer (some ⟨S, 0, none⟩), .nilIface]) ∧ w.heap.size ≤ S ∧ w'.cell? ⟨S, 0, none⟩ = some (.slice (some ⟨u, 0, none⟩) 1 cu) ∧
      w.heap.size ≤ u ∧ w'.cell? ⟨u, 0, none⟩ = some (.slice (some ⟨v, 0, none⟩) 1 cv) ∧ w.heap.size ≤ v ∧ w'.cell? ⟨v, 0, none⟩ = some (.pointer (some ⟨E, 0, none⟩)) ∧ w.heap.size ≤ E ∧
      El w' E 0 (tokAt n T i).file (tokAt n T i).line (tokAt n T i).col (.slice (some ⟨g, i * 5, none⟩) (i' - i) (c - i)) (.slice none 0 0) (.slice none 0 0) false false (.pointer none) (.pointer none) ∧ w.grownBy w' (some B) ∧ Ps w' B g n c T i' := by
  obtain ⟨i0, hi, hz0, hz1, hz2⟩ := info_parts info34
  obtain ⟨j0, hj, hy0, hy1, hy2⟩ := info_parts info66
  have hBw := h.hB
  go_enter Ybaf.func25, Ybaf.ntmps25
  go_wp2_with fail
  refine wp_loop_rounds 1 ?_
  rw [rounds_succ]
  go_wp2_with fail
  refine wp_loop_rounds 1 ?_
  rw [rounds_succ]
  go_wp2_with fail
  refine (he _ (h.later (World.grownBy_alloc _ _ _))).mono ?_
  rintro e w1 ⟨E, rfl, hE0, hE, hg1, hP1⟩
  have hs0 : w.heap.size < (w.alloc (.cells #[.slice none 0 0] 65)).heap.size := by simp
  have cS : w1.cell? ⟨w.heap.size, 0, none⟩ = some (.slice none 0 0) := hg1.cell (World.cell?_alloc_at _ _ _ _ rfl) (by intro e; simp at e; omega)
  have fS : w1.frozen? ⟨w.heap.size, 0, none⟩ = false := by
    rw [World.frozen?_of_block (w := w.alloc (.cells #[.slice none 0 0] 65)) (hg1.block _ hs0 (by intro e; simp at e; omega)), frozen?_alloc_cells]; simp [World.frozen?]
  have lS : w.heap.size < w1.heap.size := Nat.lt_of_lt_of_le hs0 hg1.size
  have hg := grown_trans (World.grownBy_alloc w _ (some B)) hg1
  have hE0' : w.heap.size < E := by simp at hE0; omega
  clear hg1 hs0 hE0
  have hnil : w1.ownsRow w1.heap.size 34 1 (.slice none 0 0) 0 [] := World.ownsRow_nil _ _ _ _
  go_wp2_with (first | (at_builtin; refine wpList_append_own _ rfl (.tmp 19) (.tmp 21) 66 rfl w1.heap.size 34 i0 (.pointer none) 1 8 Ybaf.underlying66 hi hz0 hz1 hz2 rfl (by decide) _ _ _ rfl (hnil.alloc _) ⟨w1.heap.size, 0, none⟩ 1 1 [.pointer (some ⟨E, 0, none⟩)] rfl rfl (cell_one_new _ _ _) (by intro u hu; simp at hu; subst hu; rfl) (by decide) (by decide) (by simp) ?_) | fail)
  intro v1 w2 hown hgr _
  obtain ⟨v, cv, rfl, hv0, hv1, hvc⟩ := one_row hown
  have hg2 : w1.grownBy w2 none := grown_trans (World.grownBy_alloc _ _ _) hgr
  have hP2 := hP1.later hg2
  have hE2 := hE.later hg2 (by simp)
  have cS2 := hg2.cell cS (by simp)
  have fS2 : w2.frozen? ⟨w.heap.size, 0, none⟩ = false := by rw [World.frozen?_of_block (w := w1) (hg2.block _ lS (by simp))]; exact fS
  have lS2 := Nat.lt_of_lt_of_le lS hg2.size
  have hgA := grown_trans hg (grown_some hg2 (some B))
  have hvw : w.heap.size < v := by omega
  clear hown hgr hg2 hP1 hE cS fS hg hv0 hnil lS
  go_wp2_with fail
  refine (accept_f _ B g n c i' T _ hP2 hn.s0).mono ?_
  rintro e w3 ⟨rfl, hg3⟩
  go_wp2_with fail
  refine (accept_f _ B g n c i' T _ (hP2.later hg3) hn.s1).mono ?_
  rintro e w4 ⟨rfl, hg4⟩
  have hg5 := grown_trans hg3 hg4
  have hP4 := hP2.later hg5
  have hE4 := hE2.later hg5 (by simp)
  have cS4 := hg5.cell cS2 (by simp)
  have cv4 := hg5.cell hvc (by simp)
  have fS4 : w4.frozen? ⟨w.heap.size, 0, none⟩ = false := by rw [World.frozen?_of_block (w := w2) (hg5.block _ lS2 (by simp))]; exact fS2
  have lS4 := Nat.lt_of_lt_of_le lS2 hg5.size
  have hgB := grown_trans hgA (grown_some hg5 (some B))
  have hv4 := Nat.lt_of_lt_of_le hv1 hg5.size
  clear hg3 hg4 hg5 hP2 hE2 cS2 fS2 hvc lS2 hgA hv1
  have hnil : w4.ownsRow w4.heap.size 66 1 (.slice none 0 0) 0 [] := World.ownsRow_nil _ _ _ _
  go_wp2_with (first | (at_builtin; refine wpList_append_own _ rfl (.tmp 35) (.tmp 37) 63 rfl w4.heap.size 66 j0 (.slice none 0 0) 1 24 Ybaf.underlying63 hj hy0 hy1 hy2 rfl (by decide) _ _ _ rfl (hnil.alloc _) ⟨w4.heap.size, 0, none⟩ 1 1 [.slice (some ⟨v, 0, none⟩) 1 cv] rfl rfl (cell_one_new _ _ _) (by intro u hu; simp at hu; subst hu; rfl) (by decide) (by decide) (by simp) ?_) | fail)
  intro v2 w5 hown hgr _
  obtain ⟨u, cu, rfl, hu0, hu1, huc⟩ := one_row hown
  have hg6 : w4.grownBy w5 none := grown_trans (World.grownBy_alloc _ _ _) hgr
  have hP5 := hP4.later hg6
  have hE5 := hE4.later hg6 (by simp)
  have cS5 := hg6.cell cS4 (by simp)
  have cv5 := hg6.cell cv4 (by simp)
  have fS5 : w5.frozen? ⟨w.heap.size, 0, none⟩ = false := by rw [World.frozen?_of_block (w := w4) (hg6.block _ lS4 (by simp))]; exact fS4
  have lS5 := Nat.lt_of_lt_of_le lS4 hg6.size
  have hgC := grown_trans hgB (grown_some hg6 (some B))
  have huw : w.heap.size < u := by omega
  have hgw := h.hg
  clear hown hgr hg6 hP4 hE4 cS4 cv4 fS4 lS4 hgB hnil hu0 h
  -- the store into the set
  have hst : w5.grownBy (w5.setCell ⟨w.heap.size, 0, none⟩ (.slice (some ⟨u, 0, none⟩) 1 cu)) (some w.heap.size) := grown_set (grown_refl _ _) _ _ (Or.inr rfl)
  have hP6 := hP5.other ⟨w.heap.size, 0, none⟩ (.slice (some ⟨u, 0, none⟩) 1 cu) (Nat.ne_of_gt hBw) (Nat.ne_of_gt hgw)
  have hE6 := hE5.later hst (by intro e; simp at e; omega)
  have cv6 := hst.cell cv5 (by intro e; simp at e; omega)
  have cu6 := hst.cell huc (by intro e; simp at e; omega)
  have cS6 : (w5.setCell ⟨w.heap.size, 0, none⟩ (.slice (some ⟨u, 0, none⟩) 1 cu)).cell? ⟨w.heap.size, 0, none⟩ = some (.slice (some ⟨u, 0, none⟩) 1 cu) := World.cell?_setCell_same _ _ _ cS5
  have hgD : w.grownBy (w5.setCell ⟨w.heap.size, 0, none⟩ (.slice (some ⟨u, 0, none⟩) 1 cu)) (some B) := grown_set hgC _ _ (Or.inl (Nat.le_refl _))
  clear hP5 hE5 cv5 huc hgC hst
  go_wp2_with fail
  generalize w5.setCell ⟨w.heap.size, 0, none⟩ (.slice (some ⟨u, 0, none⟩) 1 cu) = w6 at *
  refine (accept_f _ B g n c i' T _ hP6 hn.s2).mono ?_
  rintro e w7 ⟨rfl, hg7⟩
  go_wp2_with fail
  refine (accept_f _ B g n c i' T _ (hP6.later hg7) hn.s3).mono ?_
  rintro e w8 ⟨rfl, hg8⟩
  go_wp2_with fail
  refine (peek_any _ B g n c i' T ((hP6.later hg7).later hg8)).mono ?_
  rintro e w9 ⟨rfl, hg9⟩
  have hgE := grown_trans (grown_trans hg7 hg8) hg9
  go_wp2_with fail
  refine (is_any (tokAt n T i') _ false _ hn.s4).mono ?_
  rintro e w10 ⟨rfl, o, rfl⟩
  have hgF := grown_alloc (grown_alloc hgE (.cells #[.int .i64 (tokAt n T i').kind, .string (tokAt n T i').text, .string (tokAt n T i').file, .int .i64 (tokAt n T i').line, .int .i64 (tokAt n T i').col] 28)) o
  clear hg7 hg8 hg9 hgE
  go_wp2
  go_ret2
  exact ⟨w.heap.size, u, cu, v, cv, E, rfl, Nat.le_refl _, hgF.cell cS6 (by simp), by omega, hgF.cell cu6 (by simp), by omega, hgF.cell cv6 (by simp), by omega, hE6.later hgF (by simp), grown_trans hgD (grown_some hgF _), hP6.later hgF⟩

end Go.Proofs.YbulkstgFmt.Tk
