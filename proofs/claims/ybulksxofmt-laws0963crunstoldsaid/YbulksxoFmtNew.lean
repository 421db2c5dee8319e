import Derived.Test.YbulksxoFmtPut
namespace Go.Proofs.YbulksxoFmt.Bx
open Go Go.RowKit

theorem copy4 (W : World) (g s n : Nat) (hn : 4 ≤ n) (x0 x1 x2 x3 : Int)
    (s0 : W.cell? ⟨s, 0, none⟩ = some (.int .u8 x0)) (s1 : W.cell? ⟨s, 1, none⟩ = some (.int .u8 x1)) (s2 : W.cell? ⟨s, 2, none⟩ = some (.int .u8 x2)) (s3 : W.cell? ⟨s, 3, none⟩ = some (.int .u8 x3))
    (z0 : W.cell? ⟨g, 4, none⟩ = some (.int .u8 0)) (z1 : W.cell? ⟨g, 5, none⟩ = some (.int .u8 0)) (z2 : W.cell? ⟨g, 6, none⟩ = some (.int .u8 0)) (z3 : W.cell? ⟨g, 7, none⟩ = some (.int .u8 0)) (hf : ∀ j, W.frozen? ⟨g, j, none⟩ = false) :
    (Builtin.copy_ #[25, 25] 3 #[.slice (some ⟨g, 4, none⟩) n n, .slice (some ⟨s, 0, none⟩) 4 4]).run Ybaf.prog W = .ok (.int .i64 4) ((((W.setCell ⟨g, 4, none⟩ (.int .u8 x0)).setCell ⟨g, 5, none⟩ (.int .u8 x1)).setCell ⟨g, 6, none⟩ (.int .u8 x2)).setCell ⟨g, 7, none⟩ (.int .u8 x3)) := by
  obtain ⟨i0, hi, hz0, hz1, hz2⟩ := info_parts info5
  rw [run_copy_cells (P := Ybaf.prog) W 25 25 3 5 g 4 n n ⟨s, 0, none⟩ 4 4 [.int .u8 x0, .int .u8 x1, .int .u8 x2, .int .u8 x3] Ybaf.underlying25 (by rw [hi, Option.map_some, hz1]) (by simp [Nat.min_def]; omega) ?_ ?_ (fun j _ => hf _) ?_]
  · rfl
  · intro j v hj
    match j, hj with
    | 0, hj => simp at hj; subst hj; exact s0
    | 1, hj => simp at hj; subst hj; exact s1
    | 2, hj => simp at hj; subst hj; exact s2
    | 3, hj => simp at hj; subst hj; exact s3
  · intro j hj
    match j, hj with
    | 0, _ => rw [z0]; rfl
    | 1, _ => rw [z1]; rfl
    | 2, _ => rw [z2]; rfl
    | 3, _ => rw [z3]; rfl
  · intro u hu; simp at hu; rcases hu with rfl | rfl | rfl | rfl <;> rfl

theorem own_drew {w : World} {B n : Nat} {sv : Value} {xs : List Value} (h : w.ownsRow B 5 1 sv n xs) : w.drew.ownsRow B 5 1 sv n xs := h

theorem made (w' : World) (n : Nat) (y : Int) (hy : y = n) (hn : n ≤ 1000) : (Instr.makeSlice 25 (.int .i64 y) (.int .i64 y)).run Ybaf.prog w' = .ok (.slice (some ⟨w'.heap.size, 0, none⟩) n n) (w'.alloc (.cells (Array.replicate n (.int .u8 0)) 5)) := by
  subst hy
  obtain ⟨i0, hi, hz0, hz1, hz2⟩ := info_parts info5
  rw [run_makeSlice w' 25 5 i0 (.int .u8 0) Ybaf.underlying25 hi hz0 .i64 .i64 n n (by omega) (by omega) (by rw [hz1]; omega) (by rw [hz2]; omega) (by omega), hz1]
  rw [show madeCells (Value.int .u8 0).cells (Int.toNat n * 1) = Array.replicate n (.int .u8 0) from Array.ext' (by rw [show (Value.int .u8 0).cells = #[.int .u8 0] from rfl, toList_madeCells_one, Nat.mul_one, Int.toNat_natCast, Array.toList_replicate])]
  rfl

set_option maxHeartbeats 4000000 in
/-- newEntryBox -/
theorem new_any (w : World) (B f k : Nat) (x0 x1 x2 x3 : Int) (hf : f ≤ 10) (hk : k ≤ 10) (hB : B ≤ w.heap.size) (n : Nat) (hn : 16 + 4 * f = n) :
    Calls Ybaf.prog 8 #[.agg #[.int .u8 x0, .int .u8 x1, .int .u8 x2, .int .u8 x3], .int .i64 (f : Int), .int .i64 (k : Int)] w fun e w' => ∃ g, w.heap.size ≤ g ∧ e = .returned (.agg #[.slice (some ⟨g, 0, none⟩) n n, .int .i64 (n : Int), .int .i64 (4 * (k : Int)), .int .u32 0]) ∧ w'.ownsRow B 5 1 (.slice (some ⟨g, 0, none⟩) n n) n (((((List.replicate n (Value.int .u8 0)).set 4 (.int .u8 x0)).set 5 (.int .u8 x1)).set 6 (.int .u8 x2)).set 7 (.int .u8 x3)) ∧ w.grownBy w' none := by
  have hmk : ∀ w' : World, (Instr.makeSlice 25 (.int .i64 (16 + 4 * (f : Int))) (.int .i64 (16 + 4 * (f : Int)))).run Ybaf.prog w' = .ok (.slice (some ⟨w'.heap.size, 0, none⟩) n n) (w'.alloc (.cells (Array.replicate n (.int .u8 0)) 5)) := fun w' => made w' n _ (by omega) (by omega)
  have hy : ((n : Nat) : Int) = 16 + 4 * (f : Int) := by omega
  have hn4 : 4 < n := by omega
  have HN : Hid _ := hn
  have HY : Hid _ := hy
  clear hn hy
  go_enter Ybaf.func8, Ybaf.ntmps8
  go_wp2
  generalize hW : ((((w.alloc (.cells #[.int .u8 x0, .int .u8 x1, .int .u8 x2, .int .u8 x3] 43)).alloc (.cells #[.slice none 0 0, .int .i64 0, .int .i64 0, .int .u32 0] 27)).alloc (.cells #[.slice (some ⟨w.heap.size + 1 + 1 + 1, 0, none⟩) n n, .int .i64 (16 + 4 * (f : Int)), .int .i64 (4 * (k : Int)), .int .u32 0] 27)).alloc (.cells (Array.replicate n (.int .u8 0)) 5)) = W
  have hgW : w.grownBy W none := by
    rw [← hW]
    exact grown_alloc (grown_alloc (grown_alloc (grown_alloc (grown_refl _ _) _) _) _) _
  have hrow : W.ownsRow B 5 1 (.slice (some ⟨w.heap.size + 1 + 1 + 1, 0, none⟩) n n) n (List.replicate n (.int .u8 0)) := by
    rw [← hW]
    generalize hX : ((w.alloc (.cells #[.int .u8 x0, .int .u8 x1, .int .u8 x2, .int .u8 x3] 43)).alloc (.cells #[.slice none 0 0, .int .i64 0, .int .i64 0, .int .u32 0] 27)).alloc (.cells #[.slice (some ⟨w.heap.size + 1 + 1 + 1, 0, none⟩) n n, .int .i64 (16 + 4 * (f : Int)), .int .i64 (4 * (k : Int)), .int .u32 0] 27) = X
    have hsz : X.heap.size = w.heap.size + 1 + 1 + 1 := by rw [← hX]; simp
    rw [← hsz, ← Array.toList_replicate]
    exact World.ownsRow_lit X _ n (by omega) (by have := HN.out; simp [maxLen]; omega) (by simp)
  have s0 : W.cell? ⟨w.heap.size, 0, none⟩ = some (.int .u8 x0) := by rw [← hW]; simp [go_sem]
  have s1 : W.cell? ⟨w.heap.size, 1, none⟩ = some (.int .u8 x1) := by rw [← hW]; simp [go_sem]
  have s2 : W.cell? ⟨w.heap.size, 2, none⟩ = some (.int .u8 x2) := by rw [← hW]; simp [go_sem]
  have s3 : W.cell? ⟨w.heap.size, 3, none⟩ = some (.int .u8 x3) := by rw [← hW]; simp [go_sem]
  have r0 : W.cell? ⟨w.heap.size + 1, 0, none⟩ = some (.slice none 0 0) := by rw [← hW]; simp [go_sem]
  have r1 : W.cell? ⟨w.heap.size + 1, 1, none⟩ = some (.int .i64 0) := by rw [← hW]; simp [go_sem]
  have r2 : W.cell? ⟨w.heap.size + 1, 2, none⟩ = some (.int .i64 0) := by rw [← hW]; simp [go_sem]
  have r3 : W.cell? ⟨w.heap.size + 1, 3, none⟩ = some (.int .u32 0) := by rw [← hW]; simp [go_sem]
  have rf : ∀ j, W.frozen? ⟨w.heap.size + 1, j, none⟩ = false := by intro j; rw [← hW]; simp [go_sem]
  have e0 : W.cell? ⟨w.heap.size + 1 + 1, 0, none⟩ = some (.slice (some ⟨w.heap.size + 1 + 1 + 1, 0, none⟩) n n) := by rw [← hW]; simp [go_sem]
  have e1 : W.cell? ⟨w.heap.size + 1 + 1, 1, none⟩ = some (.int .i64 (16 + 4 * (f : Int))) := by rw [← hW]; simp [go_sem]
  have e2 : W.cell? ⟨w.heap.size + 1 + 1, 2, none⟩ = some (.int .i64 (4 * (k : Int))) := by rw [← hW]; simp [go_sem]
  have e3 : W.cell? ⟨w.heap.size + 1 + 1, 3, none⟩ = some (.int .u32 0) := by rw [← hW]; simp [go_sem]
  have zf : ∀ j, W.frozen? ⟨w.heap.size + 1 + 1 + 1, j, none⟩ = false := by intro j; rw [← hW]; simp [go_sem]
  have zc : ∀ j, j < n → W.cell? ⟨w.heap.size + 1 + 1 + 1, j, none⟩ = some (.int .u8 0) := fun j hj => by
    rw [hrow.cellAt j (by simpa using hj)]; simp [hj]
  have hn8 : 8 ≤ n := by have := HN.out; omega
  have hcp := copy4 W.drew (w.heap.size + 1 + 1 + 1) w.heap.size (n - 4) (by have := HN.out; omega) x0 x1 x2 x3 s0 s1 s2 s3 (zc 4 (by omega)) (zc 5 (by omega)) (zc 6 (by omega)) (zc 7 (by omega)) zf
  clear hW hmk
  have hq : w.heap.size ≤ w.heap.size := Nat.le_refl _
  generalize hqq : w.heap.size = q at *
  have hrow2 := row_set (row_set (row_set (row_set hrow 4 (.int .u8 x0)) 5 (.int .u8 x1)) 6 (.int .u8 x2)) 7 (.int .u8 x3)
  go_region
  go_wp2
  refine bodyPost_ret_by (v := .agg #[.slice (some ⟨q + 1 + 1 + 1, 0, none⟩) n n, .int .i64 (16 + 4 * (f : Int)), .int .i64 (4 * (k : Int)), .int .u32 0]) ?_ rfl ?_
  · have hres : Ybaf.f8.results = #[.cell 6 27] := by kernel_rfl
    simp only [results, hres]
    go_simp
  refine ⟨q + 1 + 1 + 1, by omega, by rw [HY.out], ?_, ?_⟩
  · have h5 := own_set (own_set (own_set (own_set hrow2 ⟨q + 1, 0, none⟩ (.slice (some ⟨q + 1 + 1 + 1, 0, none⟩) n n) (by simp [Value.ownBlock])) ⟨q + 1, 1, none⟩ (.int .i64 (16 + 4 * (f : Int))) (by simp [Value.ownBlock])) ⟨q + 1, 2, none⟩ (.int .i64 (4 * (k : Int))) (by simp [Value.ownBlock])) ⟨q + 1, 3, none⟩ (.int .u32 0) (by simp [Value.ownBlock])
    exact own_drew h5
  · refine grown_drew ?_
    iterate 8 refine grown_set ?_ _ _ (by left; simp; omega)
    exact hgW

end Go.Proofs.YbulksxoFmt.Bx
