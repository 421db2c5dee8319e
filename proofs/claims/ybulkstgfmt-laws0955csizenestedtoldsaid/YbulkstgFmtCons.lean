import Derived.Test.YbulkstgFmtSpecs
namespace Go.Proofs.YbulkstgFmt.Tk
open Go Go.RowKit

structure NoCon (t : Tok) : Prop where
  k0 : tis t ⟨#[123]⟩ = false
  k1 : tis t ⟨#[67, 79, 78, 84, 65, 73, 78, 73, 78, 71]⟩ = false
  k2 : tis t ⟨#[69, 78, 67, 79, 68, 69, 68]⟩ = false
  k3 : tis t ⟨#[67, 79, 78, 83, 84, 82, 65, 73, 78, 69, 68]⟩ = false
  k4 : tis t ⟨#[87, 73, 84, 72]⟩ = false
  k5 : tis t ⟨#[80, 65, 84, 84, 69, 82, 78]⟩ = false
  k6 : tis t ⟨#[83, 69, 84, 84, 73, 78, 71, 83]⟩ = false

/-- A constraint of a set at block C. -/
structure CA (w : World) (C : Nat) (file : ByteArray) (line col : Int) (Q : Nat) : Prop where
  lt : C < w.heap.size
  d0 : w.cell? ⟨C, 0, none⟩ = some (.string file)
  d1 : w.cell? ⟨C, 1, none⟩ = some (.int .i64 line)
  d2 : w.cell? ⟨C, 2, none⟩ = some (.int .i64 col)
  d3 : w.cell? ⟨C, 3, none⟩ = some (.slice none 0 0)
  d4 : w.cell? ⟨C, 4, none⟩ = some (.slice none 0 0)
  d5 : w.cell? ⟨C, 5, none⟩ = some (.pointer (some ⟨Q, 0, none⟩))
theorem CA.later {w w1 : World} {C : Nat} {file : ByteArray} {line col : Int} {Q : Nat} {r : Option Nat} (h : CA w C file line col Q) (k : w.grownBy w1 r) (hr : some C ≠ r) : CA w1 C file line col Q :=
  ⟨Nat.lt_of_lt_of_le h.lt k.size, k.cell h.d0 hr, k.cell h.d1 hr, k.cell h.d2 hr, k.cell h.d3 hr, k.cell h.d4 hr, k.cell h.d5 hr⟩

set_option maxHeartbeats 1000000 in
theorem cons_one (w : World) (B g n c i i' : Nat) (T : Nat → Tok) (h : Ps w B g n c T i) (he : ElemOk B g n c T (i + 1) i') (ho : tis (tokAt n T i) ⟨#[40]⟩ = true) (hkw : NoCon (tokAt n T (i + 1))) (hk : (tokAt n T (i + 1)).kind ≠ 5)
    (hn : NoSet (tokAt n T i')) (hx : tis (tokAt n T i') ⟨#[33]⟩ = false) (hc : tis (tokAt n T i') ⟨#[41]⟩ = true) :
    Calls Ybaf.prog 14 #[.pointer (some ⟨B, 0, none⟩)] w fun e w' => ∃ C Q S u cu v cv E, e = .returned (.tuple #[.pointer (some ⟨C, 0, none⟩), .nilIface]) ∧ w.heap.size ≤ C ∧ CA w' C (tokAt n T i).file (tokAt n T i).line (tokAt n T i).col Q ∧ w.heap.size ≤ Q ∧ QA w' Q S ∧
      SA w' w.heap.size S u cu v cv E (tokAt n T (i + 1)).file (tokAt n T (i + 1)).line (tokAt n T (i + 1)).col (.slice (some ⟨g, (i + 1) * 5, none⟩) (i' - (i + 1)) (c - (i + 1))) ∧ w.grownBy w' (some B) ∧ Ps w' B g n c T (i' + 1) := by
  have hBw := h.hB
  have hgw := h.hg
  have hsp := fun w h => specs_one w B g n c (i + 1) i' T h he hn hk
  have hex := fun w h => expect_t w B g n c i T _ h ho
  have hpk := fun w h => peek_any w B g n c (i + 1) T h
  have hrf := fun w h => refuse_f w B g n c i' T h hx
  have hcl := fun w h => expect_t w B g n c i' T _ h hc
  have HSP : Hid _ := hsp
  have HEX : Hid _ := hex
  have HPK : Hid _ := hpk
  have HRF : Hid _ := hrf
  have HCL : Hid _ := hcl
  clear hsp hex hpk hrf hcl he ho hk hn hx hc
  generalize tokAt n T i = t0 at *
  generalize tokAt n T (i + 1) = t1 at *
  generalize tokAt n T i' = t2 at *
  go_enter Ybaf.func14, Ybaf.ntmps14
  go_wp2_with fail
  refine (HEX.out _ h).mono ?_
  rintro e w1 ⟨rfl, hg1, hP1⟩
  have hB1 := hP1.hB
  have hgt1 := hP1.hg
  have hsz1 := hg1.size
  go_wp2_with fail
  have hC0 : ∀ j x, #[Value.string t0.file, .int .i64 t0.line, .int .i64 t0.col, .slice none 0 0, .slice none 0 0, .pointer none][j]? = some x → ((w1.alloc (.cells #[.int .i64 t0.kind, .string t0.text, .string t0.file, .int .i64 t0.line, .int .i64 t0.col] 28)).alloc (.cells #[.string t0.file, .int .i64 t0.line, .int .i64 t0.col, .slice none 0 0, .slice none 0 0, .pointer none] 59)).cell? ⟨w1.heap.size + 1, j, none⟩ = some x := fun j x hx => (World.cell?_alloc_at _ _ _ _ (by simp)).trans hx
  have hF0 : ∀ j, ((w1.alloc (.cells #[.int .i64 t0.kind, .string t0.text, .string t0.file, .int .i64 t0.line, .int .i64 t0.col] 28)).alloc (.cells #[.string t0.file, .int .i64 t0.line, .int .i64 t0.col, .slice none 0 0, .slice none 0 0, .pointer none] 59)).frozen? ⟨w1.heap.size + 1, j, none⟩ = false := fun j => by
    rw [frozen?_alloc_cells, frozen?_alloc_cells]; simp [World.frozen?]
  have hL0 : w1.heap.size + 1 < ((w1.alloc (.cells #[.int .i64 t0.kind, .string t0.text, .string t0.file, .int .i64 t0.line, .int .i64 t0.col] 28)).alloc (.cells #[.string t0.file, .int .i64 t0.line, .int .i64 t0.col, .slice none 0 0, .slice none 0 0, .pointer none] 59)).heap.size := by simp
  have hP2 := (hP1.later (World.grownBy_alloc _ (.cells #[.int .i64 t0.kind, .string t0.text, .string t0.file, .int .i64 t0.line, .int .i64 t0.col] 28) _)).later (World.grownBy_alloc _ (.cells #[.string t0.file, .int .i64 t0.line, .int .i64 t0.col, .slice none 0 0, .slice none 0 0, .pointer none] 59) _)
  have hg2 := grown_alloc (grown_alloc hg1 (.cells #[.int .i64 t0.kind, .string t0.text, .string t0.file, .int .i64 t0.line, .int .i64 t0.col] 28)) (.cells #[.string t0.file, .int .i64 t0.line, .int .i64 t0.col, .slice none 0 0, .slice none 0 0, .pointer none] 59)
  generalize ((w1.alloc (.cells #[.int .i64 t0.kind, .string t0.text, .string t0.file, .int .i64 t0.line, .int .i64 t0.col] 28)).alloc (.cells #[.string t0.file, .int .i64 t0.line, .int .i64 t0.col, .slice none 0 0, .slice none 0 0, .pointer none] 59)) = wA at *
  have hCw : w.heap.size < w1.heap.size + 1 := by omega
  have hCB : some (w1.heap.size + 1) ≠ some B := by intro e; simp at e; omega
  have hCg : w1.heap.size + 1 ≠ g := by omega
  have hCBn : w1.heap.size + 1 ≠ B := by omega
  generalize w1.heap.size + 1 = C at *
  refine (HPK.out _ hP2).mono ?_
  rintro e w2 ⟨rfl, hg3⟩
  have HC0 : Hid _ := hC0
  have HF0 : Hid _ := hF0
  clear hC0 hF0
  go_wp2_with fail
  refine (is_any t1 _ false _ hkw.k0).mono ?_
  rintro e w9 ⟨rfl, o0, rfl⟩
  go_wp2_with fail
  refine (is_any t1 _ false _ hkw.k1).mono ?_
  rintro e w9 ⟨rfl, o1, rfl⟩
  go_wp2_with fail
  refine (is_any t1 _ false _ hkw.k2).mono ?_
  rintro e w9 ⟨rfl, o2, rfl⟩
  go_wp2_with fail
  refine (is_any t1 _ false _ hkw.k3).mono ?_
  rintro e w9 ⟨rfl, o3, rfl⟩
  go_wp2_with fail
  refine (is_any t1 _ false _ hkw.k4).mono ?_
  rintro e w9 ⟨rfl, o4, rfl⟩
  go_wp2_with fail
  refine (is_any t1 _ false _ hkw.k5).mono ?_
  rintro e w9 ⟨rfl, o5, rfl⟩
  go_wp2_with fail
  refine (is_any t1 _ false _ hkw.k6).mono ?_
  rintro e w9 ⟨rfl, o6, rfl⟩
  have hgx := grown_alloc (grown_alloc (grown_alloc (grown_alloc (grown_alloc (grown_alloc (grown_alloc (grown_alloc hg3 (.cells #[.int .i64 t1.kind, .string t1.text, .string t1.file, .int .i64 t1.line, .int .i64 t1.col] 28)) o0) o1) o2) o3) o4) o5) o6
  have hP3 := hP2.later hgx
  go_wp2_with fail
  refine (HSP.out _ hP3).mono ?_
  rintro e w4 ⟨Q, S, u, cu, v, cv, E, rfl, lQ, hQ, hA, hg4, hP4⟩
  have hszx := hgx.size
  have hszA := hg2.size
  have hC4 : ∀ j x, #[Value.string t0.file, .int .i64 t0.line, .int .i64 t0.col, .slice none 0 0, .slice none 0 0, .pointer none][j]? = some x → w4.cell? ⟨C, j, none⟩ = some x := fun j x hx => hg4.cell (hgx.cell (HC0.out j x hx) (by simp)) hCB
  have f5 : w4.frozen? ⟨C, 5, none⟩ = false := by
    rw [World.frozen?_of_block (hg4.block _ (Nat.lt_of_lt_of_le hL0 hgx.size) hCB), World.frozen?_of_block (hgx.block _ hL0 (by simp))]; exact HF0.out 5
  have l4 : C < w4.heap.size := Nat.lt_of_lt_of_le (Nat.lt_of_lt_of_le hL0 hgx.size) hg4.size
  have d5 := hC4 5 _ rfl
  have lQ' : C < Q := by omega
  have hCA : CA (w4.setCell ⟨C, 5, none⟩ (.pointer (some ⟨Q, 0, none⟩))) C t0.file t0.line t0.col Q := ⟨by rw [World.size_setCell]; exact l4, (World.cell?_setCell_other _ _ _ _ (by simp)).trans (hC4 0 _ rfl), (World.cell?_setCell_other _ _ _ _ (by simp)).trans (hC4 1 _ rfl), (World.cell?_setCell_other _ _ _ _ (by simp)).trans (hC4 2 _ rfl), (World.cell?_setCell_other _ _ _ _ (by simp)).trans (hC4 3 _ rfl), (World.cell?_setCell_other _ _ _ _ (by simp)).trans (hC4 4 _ rfl), World.cell?_setCell_same _ _ _ d5⟩
  have hst : w4.grownBy (w4.setCell ⟨C, 5, none⟩ (.pointer (some ⟨Q, 0, none⟩))) (some C) := grown_set (grown_refl _ _) _ _ (Or.inr rfl)
  have hQ5 := hQ.later hst (by intro e; simp at e; omega)
  have hA5 := hA.later hst (fun b hb => by simp at hb; omega)
  have hP5 := hP4.other ⟨C, 5, none⟩ (.pointer (some ⟨Q, 0, none⟩)) hCBn hCg
  have hg5 : w.grownBy (w4.setCell ⟨C, 5, none⟩ (.pointer (some ⟨Q, 0, none⟩))) (some B) := grown_set (grown_trans (grown_trans hg2 (grown_some hgx _)) hg4) _ _ (Or.inl (Nat.le_of_lt hCw))
  have lA : w.heap.size ≤ w4.heap.size := by have := hg4.size; omega
  clear HC0 HF0 hC4 hst hQ hA hP4 hP3 hgx hg3 hg4 hP2 hg2 hg1 hP1 HPK HEX HSP hkw hL0
  go_wp2_with fail
  generalize w4.setCell ⟨C, 5, none⟩ (.pointer (some ⟨Q, 0, none⟩)) = w5 at *
  refine (HRF.out _ hP5).mono ?_
  rintro e w6 ⟨rfl, hg6⟩
  go_wp2_with fail
  refine (HCL.out _ (hP5.later hg6)).mono ?_
  rintro e w7 ⟨rfl, hg7, hP7⟩
  have hgz := grown_trans (grown_some hg6 (some B)) hg7
  clear hg6 hg7
  go_wp2
  go_ret2
  exact ⟨C, Q, S, u, cu, v, cv, E, rfl, Nat.le_of_lt hCw, hCA.later hgz hCB, by omega, hQ5.later hgz (by intro e; simp at e; omega), (hA5.low (by omega)).later hgz (fun b hb => by simp at hb; omega), grown_trans hg5 hgz, hP7⟩

end Go.Proofs.YbulkstgFmt.Tk
