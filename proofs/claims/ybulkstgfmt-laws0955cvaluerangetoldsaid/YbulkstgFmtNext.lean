import Derived.Test.YbulkstgFmtTok
import Derived.Deep.Cut
namespace Go.Proofs.YbulkstgFmt.Tk
open Go Go.RowKit

theorem Ps.other {w : World} {B g n c : Nat} {T : Nat → Tok} {i : Nat} (h : Ps w B g n c T i) (a : Addr) (v : Value) (h1 : a.block ≠ B) (h2 : a.block ≠ g) : Ps (w.setCell a v) B g n c T i := by
  have e : ∀ (x : Addr) u, x.block ≠ a.block → w.cell? x = some u → (w.setCell a v).cell? x = some u := fun x u hx h => (World.cell?_setCell_other _ _ _ _ (fun e => hx (by rw [e]))).trans h
  refine ⟨by rw [World.size_setCell]; exact h.hB, by rw [World.size_setCell]; exact h.hg, h.ne, h.le, h.nc, h.bd, e _ _ (Ne.symm h1) h.p0, e _ _ (Ne.symm h1) h.p1, e _ _ (Ne.symm h1) h.p2, by rw [World.frozen?_setCell]; exact h.fz, fun j hj => e _ _ (Ne.symm h2) (h.t0 j hj), fun j hj => e _ _ (Ne.symm h2) (h.t1 j hj), fun j hj => e _ _ (Ne.symm h2) (h.t2 j hj), fun j hj => e _ _ (Ne.symm h2) (h.t3 j hj), fun j hj => e _ _ (Ne.symm h2) (h.t4 j hj)⟩

set_option maxHeartbeats 400000 in
theorem next_any (w : World) (B g n c i : Nat) (T : Nat → Tok) (h : Ps w B g n c T i) (hk : (tokAt n T i).kind ≠ 0) :
    Calls Ybaf.prog 13 #[.pointer (some ⟨B, 0, none⟩)] w fun e w' => e = .returned (.agg #[.int .i64 (tokAt n T i).kind, .string (tokAt n T i).text, .string (tokAt n T i).file, .int .i64 (tokAt n T i).line, .int .i64 (tokAt n T i).col]) ∧ w.grownBy w' (some B) ∧ Ps w' B g n c T (i + 1) := by
  have hi := lt_of_kind hk
  generalize ht : tokAt n T i = t at *
  have HT : Hid _ := ht
  have hk1 : (t.kind != 0) = true := by simp [hk]
  have hBw := h.hB
  have hgw := h.hg
  have hbd := h.bd
  clear ht hk
  go_enter Ybaf.func13, Ybaf.ntmps13
  go_wp2_with fail
  refine (peek_any _ B g n c i T (h.later (World.grownBy_alloc _ _ _))).mono ?_
  rw [HT.out]
  rintro e w1 ⟨rfl, hg1⟩
  have s5 := (C5.new w _ _ _ _ _ 28).later hg1 (by simp)
  have hg : w.grownBy w1 none := grown_trans (World.grownBy_alloc _ _ _) hg1
  have hP := h.later hg
  have q1 := hP.p1
  have qf := hP.fz
  have hB1 := hP.hB
  clear hg1
  go_upto_region 4 with fail
  have hP2 := hP.set (i + 1) (by omega)
  rw [show ((i + 1 : Nat) : Int) = (i : Int) + 1 by omega] at hP2
  have hs1 : w1.grownBy (w1.setCell ⟨B, 1, none⟩ (.int .i64 ((i : Int) + 1))) (some B) := grown_set (grown_refl _ _) _ _ (Or.inr rfl)
  have hg2 : w.grownBy (w1.setCell ⟨B, 1, none⟩ (.int .i64 ((i : Int) + 1))) (some B) := grown_trans (grown_some hg _) hs1
  have s6 := s5.later hs1 (by intro e; cases e; omega)
  have hz := World.size_setCell w1 ⟨B, 1, none⟩ (.int .i64 ((i : Int) + 1))
  generalize w1.setCell ⟨B, 1, none⟩ (.int .i64 ((i : Int) + 1)) = wA at *
  rw [← hz]
  have s7 := C5.new wA (.int .i64 t.kind) (.string t.text) (.string t.file) (.int .i64 t.line) (.int .i64 t.col) 28
  have s8 := s6.later (World.grownBy_alloc wA (.cells #[.int .i64 t.kind, .string t.text, .string t.file, .int .i64 t.line, .int .i64 t.col] 28) none) (by simp)
  have hP3 := hP2.later (World.grownBy_alloc wA (.cells #[.int .i64 t.kind, .string t.text, .string t.file, .int .i64 t.line, .int .i64 t.col] 28) none)
  have hg3 := grown_alloc hg2 (.cells #[.int .i64 t.kind, .string t.text, .string t.file, .int .i64 t.line, .int .i64 t.col] 28)
  have hne : w.heap.size < wA.heap.size := s6.lt
  generalize wA.alloc (.cells #[.int .i64 t.kind, .string t.text, .string t.file, .int .i64 t.line, .int .i64 t.col] 28) = wB at *
  generalize wA.heap.size = b1 at *
  obtain ⟨ul, u0, u1, u2, u3, u4, uf⟩ := s7
  obtain ⟨vl, v0, v1, v2, v3, v4, vf⟩ := s8
  clear q1 qf hB1 hP hz hg h s5 s6 hP2 hg2 hs1
  have hws : w.heap.size ≤ w.heap.size := Nat.le_refl _
  go_wp2
  refine bodyPost_ret (v := .agg #[.int .i64 t.kind, .string t.text, .string t.file, .int .i64 t.line, .int .i64 t.col]) (by simp [results, Ybaf.results13, go_sem, v0, v1, v2, v3, v4]) rfl ⟨rfl, ?_, ?_⟩
  · repeat (first | (with_reducible exact hg3) | (with_reducible refine grown_set ?_ _ _ (Or.inl (Nat.le_refl _))))
  · repeat (first | (with_reducible exact hP3) | (with_reducible refine Ps.other ?_ _ _ (Nat.ne_of_gt hBw) (Nat.ne_of_gt hgw)))

set_option maxHeartbeats 400000 in
theorem accept_t (w : World) (B g n c i : Nat) (T : Nat → Tok) (s : ByteArray) (h : Ps w B g n c T i) (ht : tis (tokAt n T i) s = true) :
    Calls Ybaf.prog 19 #[.pointer (some ⟨B, 0, none⟩), .string s] w fun e w' => e = .returned (.bool true) ∧ w.grownBy w' (some B) ∧ Ps w' B g n c T (i + 1) := by
  have hi := lt_of_tis ht
  have hbd := h.bd
  have HT : Hid _ := ht
  clear ht
  go_enter Ybaf.func19, Ybaf.ntmps19
  go_wp2_with fail
  refine (peek_any _ B g n c i T h).mono ?_
  rintro e w1 ⟨rfl, hg⟩
  have hP := h.later hg
  have q1 := hP.p1
  have qf := hP.fz
  have hB1 := hP.hB
  go_wp2_with fail
  refine (is_any (tokAt n T i) s true _ HT.out).mono ?_
  rintro e w2 ⟨rfl, o, rfl⟩
  go_wp2
  go_ret
  have hP2 := hP.set (i + 1) (by omega)
  rw [show ((i + 1 : Nat) : Int) = (i : Int) + 1 by omega] at hP2
  exact ⟨rfl, grown_alloc (grown_set (grown_some hg _) _ _ (Or.inr rfl)) _, hP2.later (World.grownBy_alloc _ _ _)⟩

set_option maxHeartbeats 400000 in
theorem accept_f (w : World) (B g n c i : Nat) (T : Nat → Tok) (s : ByteArray) (h : Ps w B g n c T i) (ht : tis (tokAt n T i) s = false) :
    Calls Ybaf.prog 19 #[.pointer (some ⟨B, 0, none⟩), .string s] w fun e w' => e = .returned (.bool false) ∧ w.grownBy w' none := by
  have HT : Hid _ := ht
  clear ht
  go_enter Ybaf.func19, Ybaf.ntmps19
  go_wp2_with fail
  refine (peek_any _ B g n c i T h).mono ?_
  rintro e w1 ⟨rfl, hg⟩
  go_wp2_with fail
  refine (is_any (tokAt n T i) s false _ HT.out).mono ?_
  rintro e w2 ⟨rfl, o, rfl⟩
  go_wp2
  go_ret
  exact ⟨rfl, grown_alloc hg _⟩

set_option maxHeartbeats 400000 in
theorem refuse_f (w : World) (B g n c i : Nat) (T : Nat → Tok) (h : Ps w B g n c T i) (ht : tis (tokAt n T i) ⟨#[33]⟩ = false) :
    Calls Ybaf.prog 24 #[.pointer (some ⟨B, 0, none⟩)] w fun e w' => e = .returned .nilIface ∧ w.grownBy w' none := by
  have HT : Hid _ := ht
  clear ht
  go_enter Ybaf.func24, Ybaf.ntmps24
  go_wp2_with fail
  refine (peek_any _ B g n c i T h).mono ?_
  rintro e w1 ⟨rfl, hg⟩
  go_wp2_with fail
  refine (is_any (tokAt n T i) _ false _ HT.out).mono ?_
  rintro e w2 ⟨rfl, o, rfl⟩
  go_wp2
  go_ret
  exact ⟨rfl, grown_alloc (grown_alloc hg _) _⟩

set_option maxHeartbeats 400000 in
theorem expect_t (w : World) (B g n c i : Nat) (T : Nat → Tok) (s : ByteArray) (h : Ps w B g n c T i) (hk : tis (tokAt n T i) s = true) :
    Calls Ybaf.prog 16 #[.pointer (some ⟨B, 0, none⟩), .string s] w fun e w' => e = .returned (.tuple #[.agg #[.int .i64 (tokAt n T i).kind, .string (tokAt n T i).text, .string (tokAt n T i).file, .int .i64 (tokAt n T i).line, .int .i64 (tokAt n T i).col], .nilIface]) ∧ w.grownBy w' (some B) ∧ Ps w' B g n c T (i + 1) := by
  have hi := lt_of_tis hk
  generalize ht : tokAt n T i = t at *
  have HT : Hid _ := ht
  have HK : Hid _ := hk
  have hBw := h.hB
  have hgw := h.hg
  have hbd := h.bd
  clear ht hk
  go_enter Ybaf.func16, Ybaf.ntmps16
  go_wp2_with fail
  refine (peek_any _ B g n c i T (h.later (World.grownBy_alloc _ _ _))).mono ?_
  rw [HT.out]
  rintro e w1 ⟨rfl, hg1⟩
  have s5 := (C5.new w _ _ _ _ _ 28).later hg1 (by simp)
  have hg : w.grownBy w1 none := grown_trans (World.grownBy_alloc _ _ _) hg1
  have hP := h.later hg
  have q1 := hP.p1
  have qf := hP.fz
  have hB1 := hP.hB
  clear hg1
  go_wp2_with fail
  refine (is_any t s true _ HK.out).mono ?_
  rintro e w2 ⟨rfl, o, rfl⟩
  go_upto_region 5 with fail
  have hP2 := hP.set (i + 1) (by omega)
  rw [show ((i + 1 : Nat) : Int) = (i : Int) + 1 by omega] at hP2
  have hs1 : w1.grownBy (w1.setCell ⟨B, 1, none⟩ (.int .i64 ((i : Int) + 1))) (some B) := grown_set (grown_refl _ _) _ _ (Or.inr rfl)
  have hg2 : w.grownBy (w1.setCell ⟨B, 1, none⟩ (.int .i64 ((i : Int) + 1))) (some B) := grown_trans (grown_some hg _) hs1
  have s6 := s5.later hs1 (by intro e; cases e; omega)
  have hz := World.size_setCell w1 ⟨B, 1, none⟩ (.int .i64 ((i : Int) + 1))
  generalize w1.setCell ⟨B, 1, none⟩ (.int .i64 ((i : Int) + 1)) = wA at *
  rw [← hz]
  have s7 := C5.new wA (.int .i64 t.kind) (.string t.text) (.string t.file) (.int .i64 t.line) (.int .i64 t.col) 28
  have s8 := s6.later (World.grownBy_alloc wA (.cells #[.int .i64 t.kind, .string t.text, .string t.file, .int .i64 t.line, .int .i64 t.col] 28) none) (by simp)
  have hP3 := hP2.later (World.grownBy_alloc wA (.cells #[.int .i64 t.kind, .string t.text, .string t.file, .int .i64 t.line, .int .i64 t.col] 28) none)
  have hg3 := grown_alloc hg2 (.cells #[.int .i64 t.kind, .string t.text, .string t.file, .int .i64 t.line, .int .i64 t.col] 28)
  have hne : w.heap.size < wA.heap.size := s6.lt
  generalize wA.alloc (.cells #[.int .i64 t.kind, .string t.text, .string t.file, .int .i64 t.line, .int .i64 t.col] 28) = wB at *
  generalize wA.heap.size = b1 at *
  obtain ⟨ul, u0, u1, u2, u3, u4, uf⟩ := s7
  obtain ⟨vl, v0, v1, v2, v3, v4, vf⟩ := s8
  clear q1 qf hB1 hP hz hg h s5 s6 hP2 hg2 hs1
  have z0 := (C5.mk ul u0 u1 u2 u3 u4 uf).later (World.grownBy_alloc wB o none) (by simp)
  have z1 := (C5.mk vl v0 v1 v2 v3 v4 vf).later (World.grownBy_alloc wB o none) (by simp)
  have hP4 := hP3.later (World.grownBy_alloc wB o none)
  have hg4 := grown_alloc hg3 o
  clear u0 u1 u2 u3 u4 uf v0 v1 v2 v3 v4 vf hP3 hg3
  generalize wB.alloc o = wC at *
  obtain ⟨_, u0, u1, u2, u3, u4, _⟩ := z0
  obtain ⟨_, v0, v1, v2, v3, v4, vf⟩ := z1
  have hws : w.heap.size ≤ w.heap.size := Nat.le_refl _
  go_wp2
  refine bodyPost_ret (v := .tuple #[.agg #[.int .i64 t.kind, .string t.text, .string t.file, .int .i64 t.line, .int .i64 t.col], .nilIface]) (by simp [results, Ybaf.results16, go_sem, v0, v1, v2, v3, v4]) rfl ⟨rfl, ?_, ?_⟩
  · repeat (first | (with_reducible exact hg4) | (with_reducible refine grown_set ?_ _ _ (Or.inl (Nat.le_refl _))))
  · repeat (first | (with_reducible exact hP4) | (with_reducible refine Ps.other ?_ _ _ (Nat.ne_of_gt hBw) (Nat.ne_of_gt hgw)))

end Go.Proofs.YbulkstgFmt.Tk
