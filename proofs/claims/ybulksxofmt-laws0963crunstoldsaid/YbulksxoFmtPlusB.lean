import Derived.Test.YbulksxoFmtPlus
namespace Go.Proofs.YbulksxoFmt.Bx
open Go Go.RowKit

set_option maxHeartbeats 4000000 in
set_option maxRecDepth 100000 in
/-- Add where the sample does not start where the last one ends: a new chunk. -/
theorem plus_gap (w : World) (B b cnt clen cent cend size pos ent e1 : Nat) (X : Nat → Bxd) (f : Nat → Value) (h : Bs w B b O5 X f) (hv : Sv f cnt clen cent cend) (hc0 : 0 < cnt) (hc : cnt ≤ 2000) (hl : clen ≤ 2000) (hp : pos ≤ 1000000) (hz : size ≤ 255) (hN : ∀ o ∈ O5, (X o).N ≤ 2000) (he : ent ≤ 2) (hent : max ent 1 = e1) (hce : cent ≤ 2000) (hG : Gl w 4 115 116 99 111) (h4 : 4 < B) (ht : Stco (X 24).hd) (hne : pos ≠ cend) :
    Calls Ybaf.prog 4 #[.pointer (some ⟨b, 0, none⟩), .agg #[.int .i64 (cnt : Int), .int .i64 (cnt : Int), .int .u32 1, .int .u32 (size : Int), .int .i64 (pos : Int), .bool true, .int .u32 (ent : Int)]] w fun e w' => e = .returned .nilIface ∧ ∃ X' f', Bs w' B b O5 X' f' ∧ Sv f' (cnt + 1) 1 e1 (pos + size) ∧ (X' 20).L = closeL (X 20).L (X 20).N (X 24).N clen cent ∧ (X' 24).N = (X 24).N + 1 ∧ (X' 24).hd = (X 24).hd ∧ (∀ o ∈ O5, (X' o).N ≤ (X o).N + 1) ∧ Kp w w' B b := by
  obtain ⟨e3, he3, he3b⟩ := hv.s3
  have hbl := h.kt.lt
  have hS := Sm.new w cnt size pos ent
  have hB1 := h.grown (World.grownBy_alloc w (.cells #[.int .i64 (cnt : Int), .int .i64 (cnt : Int), .int .u32 1, .int .u32 (size : Int), .int .i64 (pos : Int), .bool true, .int .u32 (ent : Int)] 33) none)
  have hK1 := Kp.grown B b (World.grownBy_alloc w (.cells #[.int .i64 (cnt : Int), .int .i64 (cnt : Int), .int .u32 1, .int .u32 (size : Int), .int .i64 (pos : Int), .bool true, .int .u32 (ent : Int)] 33) none)
  have c0 := hv.s0 ▸ h.sc 0 (by unfold Sp; omega)
  have c1 := hv.s1 ▸ h.sc 1 (by unfold Sp; omega)
  have d0 : ((cnt : Int) == 357913939) = false := by simp; omega
  have d1 : ((cnt : Int) == 0) = false := by simp; omega
  have w1 : IntKind.i64.wrap (cnt : Int) = (cnt : Int) := by rw [IntKind.wrap_i64]; omega
  have hsb : w.heap.size ≠ b := by omega
  go_enter Ybaf.func4, Ybaf.ntmps4
  go_wp2_with fail
  generalize hsz : w.heap.size = S at *
  have hS0 := hS.s0
  have k1 := hv.s1 ▸ hB1.sc 1 (by unfold Sp; omega)
  clear c0 c1
  generalize w.alloc (.cells #[.int .i64 (cnt : Int), .int .i64 (cnt : Int), .int .u32 1, .int .u32 (size : Int), .int .i64 (pos : Int), .bool true, .int .u32 (ent : Int)] 33) = W1 at *
  go_quiet (fail)
  have hB2 := hB1.grown (grown_drewN (grown_refl W1 none) nq)
  have hK2 := hK1.trans (Kp.grown B b (grown_drewN (grown_refl W1 none) nq))
  have hS2 := hS.kept (Kp.grown B b (grown_drewN (grown_refl W1 none) nq)) hsb
  clear hB1 hK1 hS hS0 k1
  generalize W1.drewN nq = W2 at *
  have k0 := hv.s0 ▸ hB2.sc 0 (by unfold Sp; omega)
  have m2 := hS2.s2
  have n4 : (X 4).N ≤ 2000 := hN 4 (by decide)
  have n8 : (X 8).N ≤ 2000 := hN 8 (by decide)
  have n16 : (X 16).N ≤ 2000 := hN 16 (by decide)
  have HR : Hid (∀ w', W2.grownBy w' none → Calls Ybaf.prog 9 #[.pointer (some ⟨b, 4, none⟩), .int .u32 1] w' fun e w'' => e = .returned (.tuple #[]) ∧ ∃ x, Bs w'' B b O5 (upd X 4 x) f ∧ x.N ≤ (X 4).N + 1 ∧ Kp W2 w'' B b) := fun w' hw => (run_bs (hB2.grown hw) 4 (by decide) (Or.inl rfl) 1 (by decide) (by omega)).mono fun e w'' ⟨he, x, h1, h2, _, h4⟩ => ⟨he, x, h1, h2, (Kp.grown B b hw).trans h4⟩
  go_wp2_with fail
  go_region_with (first
    | (go_at_call 9; refine (HR.out _ ?_).mono ?_; (first | exact grown_refl _ _ | exact grown_drew (grown_refl _ _)); rintro e W3 ⟨rfl, x4, hB3, hx4, hK3⟩))
  have hS3 := hS2.kept hK3 hsb
  have hK3' := hK2.trans hK3
  clear HR hB2 hK2 hS2 hK3 k0 m2
  generalize hX4 : upd X 4 x4 = X4 at *
  have n8' : (X4 8).N ≤ 2000 := by rw [← hX4]; exact n8
  have HR : Hid (∀ w', W3.grownBy w' none → Calls Ybaf.prog 9 #[.pointer (some ⟨b, 8, none⟩), .int .u32 0] w' fun e w'' => e = .returned (.tuple #[]) ∧ ∃ x, Bs w'' B b O5 (upd X4 8 x) f ∧ x.N ≤ (X4 8).N + 1 ∧ Kp W3 w'' B b) := fun w' hw => (run_bs (hB3.grown hw) 8 (by decide) (Or.inr rfl) 0 (by decide) (by omega)).mono fun e w'' ⟨he, x, h1, h2, _, h4⟩ => ⟨he, x, h1, h2, (Kp.grown B b hw).trans h4⟩
  go_wp2_with fail
  refine (HR.out _ ?_).mono ?_
  · exact grown_refl _ _
  rintro e W4 ⟨rfl, x8, hB4, hx8, hK4⟩
  have hS4 := hS3.kept hK4 hsb
  have hK4' := hK3'.trans hK4
  clear HR hB3 hK3' hS3 hK4
  generalize hX8 : upd X4 8 x8 = X8 at *
  have n16' : (X8 16).N ≤ 2000 := by rw [← hX8, ← hX4]; exact n16
  have m5 := hS4.s5
  have k12 := hv.s12 ▸ hB4.sc 12 (by unfold Sp; omega)
  have hnq : ∀ w' : World, (binOp .neq 25 (.slice none 0 0) (.slice none 0 0)).run Ybaf.prog w' = .ok (.bool false) w' := fun w' => run_neq_slice_nil w' 25 5 none 0 0 Ybaf.underlying25
  have m3 := hS4.s3
  have HZ : Hid (∀ (w' : World) (s : Nat), W4.grownBy w' none → W4.heap.size ≤ s → w'.cell? ⟨s, 0, none⟩ = some (.int .u32 (size : Int)) → Calls Ybaf.prog 10 #[.pointer (some ⟨b, 16, none⟩), .slice (some ⟨s, 0, none⟩) 1 1] w' fun e w'' => e = .returned (.tuple #[]) ∧ ∃ x, Bs w'' B b O5 (upd X8 16 x) f ∧ x.N = (X8 16).N + 1 ∧ x.hd = (X8 16).hd ∧ Kp W4 w'' B b) := fun w' s hw hs hc => size_bs hB4 (by decide) size (by omega) (by omega) hw hs hc
  go_wp2_with fail
  go_region_with (first
    | (go_at_call 10; refine (HZ.out _ _ ?_ ?_ ?_).mono ?_; (first | exact grown_alloc (grown_drew (grown_refl _ _)) _ | exact grown_drew (grown_alloc (grown_refl _ _) _)); (first | exact Nat.le_refl _ | simp); (first | exact (World.cell?_alloc_at _ _ _ _ rfl).trans rfl | simp); rintro e W5 ⟨rfl, x16, hB5, hx16, _, hK5⟩))
  have hS5 := hS4.kept hK5 hsb
  have hK5' := hK4'.trans hK5
  clear HZ hB4 hK4' hS4 hK5 m5 k12 m3 hnq
  generalize hX16 : upd X8 16 x16 = X16 at *
  have hmx : max (ent : Int) 1 = (e1 : Int) := by omega
  have hbq : ((pos : Int) == (cend : Int)) = false := by simp; omega
  have hbq1 : ((pos : Int) != (cend : Int)) = true := by simp; omega
  have hbq2 : (pos == cend) = false := by simp; omega
  have hbq3 : (pos != cend) = true := by simp; omega
  have m6 := hS5.s6
  have m4 := hS5.s4
  have k0 := hv.s0 ▸ hB5.sc 0 (by unfold Sp; omega)
  have k29 := hv.s29 ▸ hB5.sc 29 (by unfold Sp; omega)
  have k30 := hv.s30 ▸ hB5.sc 30 (by unfold Sp; omega)
  go_wp2_with fail
  go_quiet (fail)
  have hB6 := hB5.grown (grown_drewN (grown_refl W5 none) nq)
  have hK6 := hK5'.trans (Kp.grown B b (grown_drewN (grown_refl W5 none) nq))
  have hS6 := hS5.kept (Kp.grown B b (grown_drewN (grown_refl W5 none) nq)) hsb
  clear hB5 hK5' hS5 m6 m4 k0 k29 k30
  generalize W5.drewN nq = W6 at *
  have m4 := hS6.s4
  have hlx : (X16 20) = X 20 := by rw [← hX16, ← hX8, ← hX4]; rfl
  have hlx4 : (X16 24) = X 24 := by rw [← hX16, ← hX8, ← hX4]; rfl
  have n20 : (X 20).N ≤ 2000 := hN 20 (by decide)
  have n24 : (X 24).N ≤ 2000 := hN 24 (by decide)
  have HE := end_bs hB6 (by decide) (by decide) clen cent hv.s28 hv.s29 (by omega) (by omega) (by rw [hlx]; omega) (by rw [hlx4]; omega)
  go_wp2_with fail
  refine HE.mono ?_
  rintro e W7 ⟨rfl, x20, hB7, hx20, hxd20, hxL20, hK7⟩
  have hS7 := hS6.kept hK7 hsb
  have hK7' := hK6.trans hK7
  clear HE hB6 hK6 hS6 hK7 m4
  generalize hX20 : upd X16 20 x20 = X20 at *
  have hly4 : (X20 24) = X 24 := by rw [← hX20]; exact hlx4
  have m4 := hS7.s4
  have HC := chunk_bs hB7 (by decide) pos (by omega) (by rw [hly4]; omega) (by rw [hly4]; exact ht) (hG.kept hK7' h4 h.bB)
  go_wp2_with fail
  refine HC.mono ?_
  rintro e W8 ⟨rfl, x24, hB8, hx24, hxd24, hK8⟩
  have hS8 := hS7.kept hK8 hsb
  have hK8' := hK7'.trans hK8
  clear HC hB7 hK7' hS7 hK8 m4
  generalize hX24 : upd X20 24 x24 = X24 at *
  have k28 := hv.s28 ▸ hB8.sc 28 (by unfold Sp; omega)
  have k29 := hv.s29 ▸ hB8.sc 29 (by unfold Sp; omega)
  have fz := hB8.fz
  go_upto_region 32 with fail
  have hB9 := (hB8.set 28 (by unfold Sp; omega) (.int .u32 0)).set 29 (by unfold Sp; omega) (.int .u32 (e1 : Int))
  have hKs := (Kp.set W8 B b 28 (.int .u32 0)).trans (Kp.set _ B b 29 (.int .u32 (e1 : Int)))
  have hS9 := hS8.kept hKs hsb
  have hK9 := hK8'.trans hKs
  clear hB8 hK8' hS8 hKs k28 k29 fz
  generalize (W8.setCell ⟨b, 28, none⟩ (.int .u32 0)).setCell ⟨b, 29, none⟩ (.int .u32 (e1 : Int)) = W9 at *
  generalize hf9 : updv (updv f 28 (.int .u32 0)) 29 (.int .u32 (e1 : Int)) = f9 at *
  have g0 : f9 0 = .int .u32 (cnt : Int) := by rw [← hf9]; exact hv.s0
  have g1 : f9 1 = .int .u64 (cnt : Int) := by rw [← hf9]; exact hv.s1
  have g2 : f9 2 = .int .i64 0 := by rw [← hf9]; exact hv.s2
  have g3 : f9 3 = .int .i64 (e3 : Int) := by rw [← hf9]; exact he3
  have g12 : f9 12 = .slice none 0 0 := by rw [← hf9]; exact hv.s12
  have g28 : f9 28 = .int .u32 0 := by rw [← hf9]; rfl
  have g29 : f9 29 = .int .u32 (e1 : Int) := by rw [← hf9]; rfl
  have g30 : f9 30 = .int .i64 (cend : Int) := by rw [← hf9]; exact hv.s30
  have m1 := hS9.s1
  have m2 := hS9.s2
  have m3 := hS9.s3
  have m4 := hS9.s4
  have k0 := g0 ▸ hB9.sc 0 (by unfold Sp; omega)
  have k1 := g1 ▸ hB9.sc 1 (by unfold Sp; omega)
  have k2 := g2 ▸ hB9.sc 2 (by unfold Sp; omega)
  have k3 := g3 ▸ hB9.sc 3 (by unfold Sp; omega)
  have k28 := g28 ▸ hB9.sc 28 (by unfold Sp; omega)
  have k30 := g30 ▸ hB9.sc 30 (by unfold Sp; omega)
  have fz := hB9.fz
  have u0 : IntKind.u32.wrap ((cnt : Int) + 1) = (cnt : Int) + 1 := by rw [IntKind.wrap_u32]; omega
  have u1 : IntKind.u64.wrap ((cnt : Int) + 1) = (cnt : Int) + 1 := by rw [IntKind.wrap_u64]; omega
  have usz : IntKind.i64.wrap (size : Int) = (size : Int) := by rw [IntKind.wrap_i64]; omega
  have u30 : IntKind.i64.wrap ((pos : Int) + (size : Int)) = (pos : Int) + (size : Int) := by rw [IntKind.wrap_i64]; omega
  have hmn : min (0 : Int) (cnt : Int) = 0 := by omega
  obtain ⟨e4, he4⟩ : ∃ e4 : Nat, max (e3 : Int) ((pos : Int) + (size : Int)) = (e4 : Int) := ⟨max e3 (pos + size), by omega⟩
  have he4b : e4 ≤ 10000000 := by omega
  go_wp2_with fail
  go_region
  go_wp2_with fail
  go_region
  go_wp2_with fail
  go_region
  go_wp2_with fail
  go_ret
  obtain ⟨f', hBf, hvf, hKf⟩ := tail_bs (cnt := cnt + 1) (clen := 1) (cent := e1) (cend := pos + size) (e4 := e4) hB9 g12 g29 he4b 1 ((pos : Int) + (size : Int)) ((cnt : Int) + 1) (by omega) (by omega) (by omega)
  refine ⟨rfl, X24, f', hBf, hvf, ?_, ?_, ?_, ?_, hK9.trans hKf⟩
  · rw [← hX24, upd_other _ _ _ _ (by decide), ← hX20, upd_same, hxL20, hlx, hlx4]
  · rw [← hX24, upd_same, hx24, hly4]
  · rw [← hX24, upd_same, hxd24, hly4]
  · intro o ho
    rw [hly4] at hx24
    rw [hlx] at hx20
    rw [← hX8, ← hX4] at hx16
    rw [← hX4] at hx8
    rw [← hX24, ← hX20, ← hX16, ← hX8, ← hX4]
    simp [O5] at ho
    rcases ho with rfl | rfl | rfl | rfl | rfl
    · show x24.N ≤ _; rw [hx24]; exact Nat.le_refl _
    · show x20.N ≤ _; exact hx20
    · show x16.N ≤ _; rw [hx16]; exact Nat.le_refl _
    · show x8.N ≤ _; exact hx8
    · show x4.N ≤ _; exact hx4

end Go.Proofs.YbulksxoFmt.Bx
