import Derived.Test.YbulkstgFmtVal
import Derived.Test.YbulkstgFmtSpr
import Derived.Deep.RegionHeld3
namespace Go.Proofs.YbulkstgFmt.Tk
open Go Go.RowKit
open Go.Extern.Stop Go.Stop Go.Extern

set_option maxHeartbeats 400000 in
theorem kind_t (w : World) (B g n c i : Nat) (T : Nat → Tok) (what : ByteArray) (h : Ps w B g n c T i) (hk : (tokAt n T i).kind = 3) :
    Calls Ybaf.prog 26 #[.pointer (some ⟨B, 0, none⟩), .int .i64 3, .string what] w fun e w' => e = .returned (.tuple #[.agg #[.int .i64 (tokAt n T i).kind, .string (tokAt n T i).text, .string (tokAt n T i).file, .int .i64 (tokAt n T i).line, .int .i64 (tokAt n T i).col], .nilIface]) ∧ w.grownBy w' (some B) ∧ Ps w' B g n c T (i + 1) := by
  have hi := lt_of_kind (T := T) (n := n) (i := i) (by rw [hk]; decide)
  generalize ht : tokAt n T i = t at *
  have HT : Hid _ := ht
  have hkk : (t.kind != 3) = false := by simp [hk]
  have hBw := h.hB
  have hgw := h.hg
  have hbd := h.bd
  clear ht hk
  go_enter Ybaf.func26, Ybaf.ntmps26
  go_wp2_with fail
  refine (peek_any _ B g n c i T (h.later (World.grownBy_alloc _ _ _))).mono ?_
  rw [HT.out]
  rintro e w1 ⟨rfl, hg1⟩
  have s5 := (C5.new w _ _ _ _ _ 28).later hg1 (by simp)
  have hg : w.grownBy w1 none := grown_trans (World.grownBy_alloc _ _ _) hg1
  have hP := h.later hg
  have q1 := hP.p1
  have qf := hP.fz
  have hB1 := hP.hB
  clear hg1
  go_upto_region 5 with fail
  have hP2 := hP.set (i + 1) (by omega)
  rw [show ((i + 1 : Nat) : Int) = (i : Int) + 1 by omega] at hP2
  have hs1 : w1.grownBy (w1.setCell ⟨B, 1, none⟩ (.int .i64 ((i : Int) + 1))) (some B) := grown_set (grown_refl _ _) _ _ (Or.inr rfl)
  have hg2 : w.grownBy (w1.setCell ⟨B, 1, none⟩ (.int .i64 ((i : Int) + 1))) (some B) := grown_trans (grown_some hg _) hs1
  have s6 := s5.later hs1 (by intro e; cases e; omega)
  have hz := World.size_setCell w1 ⟨B, 1, none⟩ (.int .i64 ((i : Int) + 1))
  generalize w1.setCell ⟨B, 1, none⟩ (.int .i64 ((i : Int) + 1)) = wA at *
  rw [← hz]
  have s7 := C5.new wA (.int .i64 t.kind) (.string t.text) (.string t.file) (.int .i64 t.line) (.int .i64 t.col) 28
  have s8 := s6.later (World.grownBy_alloc wA (.cells #[.int .i64 t.kind, .string t.text, .string t.file, .int .i64 t.line, .int .i64 t.col] 28) none) (by simp)
  have hP3 := hP2.later (World.grownBy_alloc wA (.cells #[.int .i64 t.kind, .string t.text, .string t.file, .int .i64 t.line, .int .i64 t.col] 28) none)
  have hg3 := grown_alloc hg2 (.cells #[.int .i64 t.kind, .string t.text, .string t.file, .int .i64 t.line, .int .i64 t.col] 28)
  have hne : w.heap.size < wA.heap.size := s6.lt
  generalize wA.alloc (.cells #[.int .i64 t.kind, .string t.text, .string t.file, .int .i64 t.line, .int .i64 t.col] 28) = wB at *
  generalize wA.heap.size = b1 at *
  obtain ⟨ul, u0, u1, u2, u3, u4, uf⟩ := s7
  obtain ⟨vl, v0, v1, v2, v3, v4, vf⟩ := s8
  clear q1 qf hB1 hP hz hg h s5 s6 hP2 hg2 hs1
  have hws : w.heap.size ≤ w.heap.size := Nat.le_refl _
  go_wp2
  refine bodyPost_ret (v := .tuple #[.agg #[.int .i64 t.kind, .string t.text, .string t.file, .int .i64 t.line, .int .i64 t.col], .nilIface]) (by simp [results, Ybaf.results26, go_sem, v0, v1, v2, v3, v4]) rfl ⟨rfl, ?_, ?_⟩
  · repeat (first | (with_reducible exact hg3) | (with_reducible refine grown_set ?_ _ _ (Or.inl (Nat.le_refl _))))
  · repeat (first | (with_reducible exact hP3) | (with_reducible refine Ps.other ?_ _ _ (Nat.ne_of_gt hBw) (Nat.ne_of_gt hgw)))

set_option maxHeartbeats 2000000 in
theorem kind_f (F : Interp) (w : World) (B g n c i : Nat) (T : Nat → Tok) (what : ByteArray) (hF : F.answers w.tape) (h : Ps w B g n c T i) (hk : (tokAt n T i).kind ≠ 3) :
    Calls Ybaf.prog 26 #[.pointer (some ⟨B, 0, none⟩), .int .i64 3, .string what] w fun e w' => ∃ E, e = .returned (.tuple #[.agg #[.int .i64 (tokAt n T i).kind, .string (tokAt n T i).text, .string (tokAt n T i).file, .int .i64 (tokAt n T i).line, .int .i64 (tokAt n T i).col], .iface 50 (.pointer (some ⟨E, 0, none⟩))]) ∧ w.grownBy w' none := by
  generalize ht : tokAt n T i = t at *
  have HT : Hid _ := ht
  have hkk : (t.kind != 3) = true := by simp [hk]
  clear ht hk
  go_enter Ybaf.func26, Ybaf.ntmps26
  go_wp2_with fail
  refine (peek_any _ B g n c i T (h.later (World.grownBy_alloc _ _ _))).mono ?_
  rw [HT.out]
  rintro e w1 ⟨rfl, hg1⟩
  have s5 := (C5.new w _ _ _ _ _ 28).later hg1 (by simp)
  have hg : w.grownBy w1 none := grown_trans (World.grownBy_alloc _ _ _) hg1
  clear hg1 h
  go_wp2_with fail
  have s6 := s5.later (World.grownBy_alloc w1 (.cells #[.int .i64 t.kind, .string t.text, .string t.file, .int .i64 t.line, .int .i64 t.col] 28) none) (by simp)
  have s7 := C5.new w1 (.int .i64 t.kind) (.string t.text) (.string t.file) (.int .i64 t.line) (.int .i64 t.col) 28
  have hg2 := grown_alloc hg (.cells #[.int .i64 t.kind, .string t.text, .string t.file, .int .i64 t.line, .int .i64 t.col] 28)
  have hne : w.heap.size < w1.heap.size := s5.lt
  have hz : (w1.alloc (.cells #[.int .i64 t.kind, .string t.text, .string t.file, .int .i64 t.line, .int .i64 t.col] 28)).heap.size = w1.heap.size + 1 := by simp
  generalize w1.alloc (.cells #[.int .i64 t.kind, .string t.text, .string t.file, .int .i64 t.line, .int .i64 t.col] 28) = w2 at *
  generalize w1.heap.size = b1 at *
  have hF2 : F.answers w2.tape := by rw [hg2.tape]; exact hF
  obtain ⟨lv, v0, v1, v2, v3, v4, vf⟩ := s6
  obtain ⟨lu, u0, u1, u2, u3, u4, uf⟩ := s7
  clear s5 hg hF hz
  have hds : ∀ W', w2.grownBy W' none → Calls Ybaf.prog 20 #[.agg #[.int .i64 t.kind, .string t.text, .string t.file, .int .i64 t.line, .int .i64 t.col]] W' fun e w' => ∃ s, e = .returned (.string s) ∧ w2.grownBy w' none ∧ W'.heap.size ≤ w'.heap.size := fun W' hW => (describe_any F t W' (by rw [hW.tape]; exact hF2)).mono fun e w' ⟨s, he, hg⟩ => ⟨s, he, grown_trans hW hg, hg.size⟩
  have her : ∀ W' b s1 s2, w2.grownBy W' none → b < W'.heap.size → W'.cell? ⟨b, 0, none⟩ = some (.iface 9 (.string s1)) → W'.cell? ⟨b, 1, none⟩ = some (.iface 9 (.string s2)) → Calls Ybaf.prog 17 #[.agg #[.string t.file, .int .i64 t.line, .int .i64 t.col], .string ⟨#[101, 120, 112, 101, 99, 116, 101, 100, 32, 37, 115, 44, 32, 102, 111, 117, 110, 100, 32, 37, 115]⟩, .slice (some ⟨b, 0, none⟩) 2 2] W' fun e w' => ∃ E, e = .returned (.pointer (some ⟨E, 0, none⟩)) ∧ w2.grownBy w' none := fun W' b s1 s2 hW hb h1 h2 => (errorf_two F W' _ _ _ b s1 s2 (by rw [hW.tape]; exact hF2) hb h1 h2).mono fun e w' ⟨E, he, hg⟩ => ⟨E, he, grown_trans hW hg⟩
  have HDS : Hid _ := hds
  have HER : Hid _ := her
  have hsz : b1 < w2.heap.size := lu
  have hgx := grown_refl w2 none
  have HG : Hid _ := hg2
  clear hds her hg2
  go_region_held3 (fun w' => w'.cell? ⟨b1, 0, none⟩ = some (.int .i64 t.kind) ∧ w'.cell? ⟨b1, 1, none⟩ = some (.string t.text) ∧ w'.cell? ⟨b1, 2, none⟩ = some (.string t.file) ∧ w'.cell? ⟨b1, 3, none⟩ = some (.int .i64 t.line) ∧ w'.cell? ⟨b1, 4, none⟩ = some (.int .i64 t.col)) (first | (simp [go_sem, *]; done) | skip) (first
    | (go_at_call 20; refine (HDS.out _ (by first | exact grown_refl _ _ | exact grown_drew (grown_refl _ _))).mono ?_; rintro e w5 ⟨s, rfl, hg5, hs5⟩; have x0 := hg5.cell u0 (by simp); have x1 := hg5.cell u1 (by simp); have x2 := hg5.cell u2 (by simp); have x3 := hg5.cell u3 (by simp); have x4 := hg5.cell u4 (by simp); have xl := Nat.lt_of_lt_of_le lu hg5.size)
    | (go_at_call 17; refine (HER.out _ _ what s (grown_alloc hg5 _) (by simp) (World.cell?_alloc_at _ _ _ _ rfl) (World.cell?_alloc_at _ _ _ _ rfl)).mono ?_; rintro e w6 ⟨E, rfl, hg6⟩; have y0 := hg6.cell u0 (by simp); have y1 := hg6.cell u1 (by simp); have y2 := hg6.cell u2 (by simp); have y3 := hg6.cell u3 (by simp); have y4 := hg6.cell u4 (by simp); have z0 := hg6.cell v0 (by simp); have z1 := hg6.cell v1 (by simp); have z2 := hg6.cell v2 (by simp); have z3 := hg6.cell v3 (by simp); have z4 := hg6.cell v4 (by simp); have zf := fun j => (World.frozen?_of_block (hg6.block _ lv (by simp))).trans (vf j)))
  go_wp2
  refine bodyPost_ret (v := .tuple #[.agg #[.int .i64 t.kind, .string t.text, .string t.file, .int .i64 t.line, .int .i64 t.col], .iface 50 (.pointer (some ⟨E, 0, none⟩))]) (by simp [results, Ybaf.results26, go_sem, z0, z1, z2, z3, z4]) rfl ⟨E, rfl, ?_⟩
  have hgw := grown_trans HG.out hg6
  repeat (first | (with_reducible exact hgw) | (with_reducible refine grown_set ?_ _ _ (Or.inl (Nat.le_refl _))))

end Go.Proofs.YbulkstgFmt.Tk
