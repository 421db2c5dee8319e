import Derived.Test.YbulkstgFmtCons
namespace Go.Proofs.YbulkstgFmt.Tk
open Go Go.RowKit

set_option maxHeartbeats 1000000 in
theorem elem_size (w : World) (B g n c i i' : Nat) (T : Nat → Tok) (h : Ps w B g n c T i) (hz : tis (tokAt n T i) ⟨#[83, 73, 90, 69]⟩ = true) (he : ElemOk B g n c T (i + 1 + 1) i') (ho : tis (tokAt n T (i + 1)) ⟨#[40]⟩ = true) (hkw : NoCon (tokAt n T (i + 1 + 1))) (hk : (tokAt n T (i + 1 + 1)).kind ≠ 5)
    (hn : NoSet (tokAt n T i')) (hx : tis (tokAt n T i') ⟨#[33]⟩ = false) (hc : tis (tokAt n T i') ⟨#[41]⟩ = true) :
    Calls Ybaf.prog 7 #[.pointer (some ⟨B, 0, none⟩)] w fun e w' => ∃ F C Q S u cu v cv E, e = .returned (.tuple #[.pointer (some ⟨F, 0, none⟩), .nilIface]) ∧
      El w' F 2 (tokAt n T i).file (tokAt n T i).line (tokAt n T i).col (.slice none 0 0) (.slice none 0 0) (.slice none 0 0) false false (.pointer (some ⟨C, 0, none⟩)) (.pointer none) ∧
      CA w' C (tokAt n T (i + 1)).file (tokAt n T (i + 1)).line (tokAt n T (i + 1)).col Q ∧ QA w' Q S ∧
      SA w' w.heap.size S u cu v cv E (tokAt n T (i + 1 + 1)).file (tokAt n T (i + 1 + 1)).line (tokAt n T (i + 1 + 1)).col (.slice (some ⟨g, (i + 1 + 1) * 5, none⟩) (i' - (i + 1 + 1)) (c - (i + 1 + 1))) ∧ w.grownBy w' (some B) ∧ Ps w' B g n c T (i' + 1) := by
  have hBw := h.hB
  have hcn := fun w h => cons_one w B g n c (i + 1) i' T h he ho hkw hk hn hx hc
  have hnx := fun w h => next_any w B g n c i T h (by intro h0; simp [tis, h0] at hz)
  have hpk := fun w h => peek_any w B g n c i T h
  have HCN : Hid _ := hcn
  have HNX : Hid _ := hnx
  have HPK : Hid _ := hpk
  have HZ : Hid _ := hz
  clear hcn hnx hpk hz he ho hkw hk hn hx hc
  generalize tokAt n T i = t0 at *
  generalize tokAt n T (i + 1) = t1 at *
  generalize tokAt n T (i + 1 + 1) = t2 at *
  go_enter Ybaf.func7, Ybaf.ntmps7
  go_wp2_with fail
  refine (HPK.out _ h).mono ?_
  rintro e w1 ⟨rfl, hg1⟩
  have hP1 := h.later hg1
  have hsz1 := hg1.size
  go_wp2_with fail
  refine (is_any t0 _ true _ HZ.out).mono ?_
  rintro e w2 ⟨rfl, o, rfl⟩
  go_wp2_with fail
  have hP2 := (hP1.later (World.grownBy_alloc _ (.cells #[.int .i64 t0.kind, .string t0.text, .string t0.file, .int .i64 t0.line, .int .i64 t0.col] 28) _)).later (World.grownBy_alloc _ o _)
  have hg2 := grown_alloc (grown_alloc hg1 (.cells #[.int .i64 t0.kind, .string t0.text, .string t0.file, .int .i64 t0.line, .int .i64 t0.col] 28)) o
  have hC2 := (C5.new w1 (.int .i64 t0.kind) (.string t0.text) (.string t0.file) (.int .i64 t0.line) (.int .i64 t0.col) 28).later (World.grownBy_alloc _ o none) (by simp)
  generalize (w1.alloc (.cells #[.int .i64 t0.kind, .string t0.text, .string t0.file, .int .i64 t0.line, .int .i64 t0.col] 28)).alloc o = w2 at *
  have nb : some w1.heap.size ≠ some B := by intro e; simp at e; omega
  generalize w1.heap.size = b1 at *
  refine (HNX.out _ hP2).mono ?_
  rintro e w3 ⟨rfl, hg3, hP3⟩
  have hC3 := hC2.later hg3 nb
  have hgA := grown_trans (grown_some hg2 (some B)) hg3
  clear hC2 hg2 hg3 hP2 hP1 hg1
  go_wp2_with fail
  refine (HCN.out _ hP3).mono ?_
  rintro e w4 ⟨C, Q, S, u, cu, v, cv, E, rfl, lC, hCA, lQ, hQ, hA, hg4, hP4⟩
  have hC4 := hC3.later hg4 nb
  have hgB := grown_trans hgA hg4
  have lw := hgA.size
  obtain ⟨_, u0, u1, u2, u3, u4, _⟩ := hC4
  have hEl := El.new w4 2 t0.file t0.line t0.col (.slice none 0 0) (.slice none 0 0) (.slice none 0 0) false false (.pointer (some ⟨C, 0, none⟩)) (.pointer none) 46
  have hcl := ‹b1 < w4.heap.size›
  clear hC3 hgA
  go_wp2
  go_ret2
  exact ⟨w4.heap.size, C, Q, S, u, cu, v, cv, E, rfl, hEl, hCA.later (World.grownBy_alloc _ _ none) (by simp), hQ.later (World.grownBy_alloc _ _ none) (by simp), (hA.low lw).later (World.grownBy_alloc _ _ none) (fun b hb => by cases hb), grown_alloc hgB _, hP4.later (World.grownBy_alloc _ _ _)⟩

set_option maxHeartbeats 1000000 in
theorem elem_paren (w : World) (B g n c i i' : Nat) (T : Nat → Tok) (h : Ps w B g n c T i) (hz : tis (tokAt n T i) ⟨#[83, 73, 90, 69]⟩ = false) (he : ElemOk B g n c T (i + 1) i') (ho : tis (tokAt n T i) ⟨#[40]⟩ = true) (hk : (tokAt n T (i + 1)).kind ≠ 5)
    (hn : NoSet (tokAt n T i')) (hc : tis (tokAt n T i') ⟨#[41]⟩ = true) :
    Calls Ybaf.prog 7 #[.pointer (some ⟨B, 0, none⟩)] w fun e w' => ∃ F Q S u cu v cv E, e = .returned (.tuple #[.pointer (some ⟨F, 0, none⟩), .nilIface]) ∧
      El w' F 3 (tokAt n T i).file (tokAt n T i).line (tokAt n T i).col (.slice none 0 0) (.slice none 0 0) (.slice none 0 0) false false (.pointer none) (.pointer (some ⟨Q, 0, none⟩)) ∧ QA w' Q S ∧
      SA w' w.heap.size S u cu v cv E (tokAt n T (i + 1)).file (tokAt n T (i + 1)).line (tokAt n T (i + 1)).col (.slice (some ⟨g, (i + 1) * 5, none⟩) (i' - (i + 1)) (c - (i + 1))) ∧ w.grownBy w' (some B) ∧ Ps w' B g n c T (i' + 1) := by
  have hBw := h.hB
  have hsp := fun w h => specs_one w B g n c (i + 1) i' T h he hn hk
  have hnx := fun w h => next_any w B g n c i T h (by intro h0; simp [tis, h0] at ho)
  have hpk := fun w h => peek_any w B g n c i T h
  have hcl := fun w h => expect_t w B g n c i' T _ h hc
  have HSP : Hid _ := hsp
  have HNX : Hid _ := hnx
  have HPK : Hid _ := hpk
  have HZ : Hid _ := hz
  have HO : Hid _ := ho
  have HCL : Hid _ := hcl
  clear hsp hnx hpk hcl hz he ho hk hn hc
  generalize tokAt n T i = t0 at *
  generalize tokAt n T (i + 1) = t1 at *
  generalize tokAt n T i' = t2 at *
  go_enter Ybaf.func7, Ybaf.ntmps7
  go_wp2_with fail
  refine (HPK.out _ h).mono ?_
  rintro e w1 ⟨rfl, hg1⟩
  have hP1 := h.later hg1
  have hsz1 := hg1.size
  go_wp2_with fail
  refine (is_any t0 _ false _ HZ.out).mono ?_
  rintro e w2 ⟨rfl, o, rfl⟩
  go_wp2_with fail
  refine (is_any t0 _ true _ HO.out).mono ?_
  rintro e w2 ⟨rfl, o', rfl⟩
  go_wp2_with fail
  have hP2 := ((hP1.later (World.grownBy_alloc _ (.cells #[.int .i64 t0.kind, .string t0.text, .string t0.file, .int .i64 t0.line, .int .i64 t0.col] 28) _)).later (World.grownBy_alloc _ o _)).later (World.grownBy_alloc _ o' _)
  have hg2 := grown_alloc (grown_alloc (grown_alloc hg1 (.cells #[.int .i64 t0.kind, .string t0.text, .string t0.file, .int .i64 t0.line, .int .i64 t0.col] 28)) o) o'
  have hC2 := (C5.new w1 (.int .i64 t0.kind) (.string t0.text) (.string t0.file) (.int .i64 t0.line) (.int .i64 t0.col) 28).later (grown_alloc (World.grownBy_alloc _ o none) o') (by simp)
  generalize ((w1.alloc (.cells #[.int .i64 t0.kind, .string t0.text, .string t0.file, .int .i64 t0.line, .int .i64 t0.col] 28)).alloc o).alloc o' = w2 at *
  have nb : some w1.heap.size ≠ some B := by intro e; simp at e; omega
  generalize w1.heap.size = b1 at *
  refine (HNX.out _ hP2).mono ?_
  rintro e w3 ⟨rfl, hg3, hP3⟩
  have hC3 := hC2.later hg3 nb
  have hgA := grown_trans (grown_some hg2 (some B)) hg3
  clear hC2 hg2 hg3 hP2 hP1 hg1
  go_wp2_with fail
  refine (HSP.out _ hP3).mono ?_
  rintro e w4 ⟨Q, S, u, cu, v, cv, E, rfl, lQ, hQ, hA, hg4, hP4⟩
  have hC4 := hC3.later hg4 nb
  have hgB := grown_trans hgA hg4
  have lw := hgA.size
  have hBs := h.hB
  go_wp2_with fail
  refine (HCL.out _ hP4).mono ?_
  rintro e w5 ⟨rfl, hg5, hP5⟩
  have hC5 := hC4.later hg5 nb
  have hgC := grown_trans hgB hg5
  have hQ5 := hQ.later hg5 (by intro e; simp at e; omega)
  have hA5 := (hA.low (by omega : w.heap.size ≤ w3.heap.size + 1)).later hg5 (fun b hb => by simp at hb; omega)
  obtain ⟨hcl5, u0, u1, u2, u3, u4, _⟩ := hC5
  have hEl := El.new w5 3 t0.file t0.line t0.col (.slice none 0 0) (.slice none 0 0) (.slice none 0 0) false false (.pointer none) (.pointer (some ⟨Q, 0, none⟩)) 46
  clear hC3 hC4 hgA hgB hg4 hg5 hQ hA
  go_wp2
  go_ret2
  exact ⟨w5.heap.size, Q, S, u, cu, v, cv, E, rfl, hEl, hQ5.later (World.grownBy_alloc _ _ none) (by simp), hA5.later (World.grownBy_alloc _ _ none) (fun b hb => by cases hb), grown_alloc hgC _, hP5.later (World.grownBy_alloc _ _ _)⟩

end Go.Proofs.YbulkstgFmt.Tk
