import Derived.Test.YbulksxoFmtSteps
import Derived.Lib.LazyBuf
namespace Go.Proofs.YbulksxoFmt.Bx
open Go Go.RowKit

/-- The sample as Add holds it. -/
structure Sm (w : World) (s i size pos ent : Nat) : Prop where
  kt : Kt w s
  s0 : w.cell? ⟨s, 0, none⟩ = some (.int .i64 (i : Int))
  s1 : w.cell? ⟨s, 1, none⟩ = some (.int .i64 (i : Int))
  s2 : w.cell? ⟨s, 2, none⟩ = some (.int .u32 1)
  s3 : w.cell? ⟨s, 3, none⟩ = some (.int .u32 (size : Int))
  s4 : w.cell? ⟨s, 4, none⟩ = some (.int .i64 (pos : Int))
  s5 : w.cell? ⟨s, 5, none⟩ = some (.bool true)
  s6 : w.cell? ⟨s, 6, none⟩ = some (.int .u32 (ent : Int))
theorem Sm.kept {w w' : World} {B b s i size pos ent : Nat} (h : Sm w s i size pos ent) (k : Kp w w' B b) (hs : s ≠ b) : Sm w' s i size pos ent :=
  have c := fun {j : Nat} {v : Value} (hc : w.cell? ⟨s, j, none⟩ = some v) => k.cell (a := ⟨s, j, none⟩) hc hs (Or.inr h.kt)
  ⟨h.kt.of (k.block s h.kt.lt hs (Or.inr h.kt)), c h.s0, c h.s1, c h.s2, c h.s3, c h.s4, c h.s5, c h.s6⟩
theorem Sm.new (w : World) (i size pos ent : Nat) : Sm (w.alloc (.cells #[.int .i64 (i : Int), .int .i64 (i : Int), .int .u32 1, .int .u32 (size : Int), .int .i64 (pos : Int), .bool true, .int .u32 (ent : Int)] 33)) w.heap.size i size pos ent :=
  ⟨⟨_, 33, (0, 0), heap_alloc_new w _, by decide⟩, by simp, by simp, by simp, by simp, by simp, by simp, by simp⟩

/-- The builder's numbers. -/
structure Sv (f : Nat → Value) (cnt clen cent cend : Nat) : Prop where
  s0 : f 0 = .int .u32 (cnt : Int)
  s1 : f 1 = .int .u64 (cnt : Int)
  s2 : f 2 = .int .i64 0
  s3 : ∃ e : Nat, f 3 = .int .i64 (e : Int) ∧ e ≤ 10000000
  s12 : f 12 = .slice none 0 0
  s28 : f 28 = .int .u32 (clen : Int)
  s29 : f 29 = .int .u32 (cent : Int)
  s30 : f 30 = .int .i64 (cend : Int)

theorem Bs.drew {w : World} {B b : Nat} {O : List Nat} {X : Nat → Bxd} {f : Nat → Value} (h : Bs w B b O X f) : Bs w.drew B b O X f := h.grown (grown_drew (grown_refl _ _))

def O5 : List Nat := [24, 20, 16, 8, 4]

/-- Add's last stores. -/
theorem tail_bs {w : World} {B b cnt clen cent cend e4 : Nat} {O : List Nat} {X : Nat → Bxd} {f : Nat → Value} (h : Bs w B b O X f) (f12 : f 12 = .slice none 0 0) (f29 : f 29 = .int .u32 (cent : Int)) (he4 : e4 ≤ 10000000) (y28 y30 y0 : Int) (h28 : y28 = (clen : Int)) (h30 : y30 = (cend : Int)) (h0 : y0 = (cnt : Int)) :
    ∃ f', Bs ((((((w.setCell ⟨b, 28, none⟩ (.int .u32 y28)).setCell ⟨b, 30, none⟩ (.int .i64 y30)).setCell ⟨b, 0, none⟩ (.int .u32 y0)).setCell ⟨b, 1, none⟩ (.int .u64 y0)).setCell ⟨b, 2, none⟩ (.int .i64 0)).setCell ⟨b, 3, none⟩ (.int .i64 (e4 : Int))).drew.drew.drew B b O X f' ∧ Sv f' cnt clen cent cend ∧ Kp w ((((((w.setCell ⟨b, 28, none⟩ (.int .u32 y28)).setCell ⟨b, 30, none⟩ (.int .i64 y30)).setCell ⟨b, 0, none⟩ (.int .u32 y0)).setCell ⟨b, 1, none⟩ (.int .u64 y0)).setCell ⟨b, 2, none⟩ (.int .i64 0)).setCell ⟨b, 3, none⟩ (.int .i64 (e4 : Int))).drew.drew.drew B b := by
  subst h28 h30 h0
  refine ⟨_, ((((((h.set 28 (by unfold Sp; omega) _).set 30 (by unfold Sp; omega) _).set 0 (by unfold Sp; omega) _).set 1 (by unfold Sp; omega) _).set 2 (by unfold Sp; omega) _).set 3 (by unfold Sp; omega) _).drew.drew.drew, ⟨by simp [updv], by simp [updv], by simp [updv], ⟨e4, by simp [updv], he4⟩, by simp [updv, f12], by simp [updv], by simp [updv, f29], by simp [updv]⟩, ?_⟩
  exact ((((((Kp.set w B b 28 _).trans (Kp.set _ B b 30 _)).trans (Kp.set _ B b 0 _)).trans (Kp.set _ B b 1 _)).trans (Kp.set _ B b 2 _)).trans (Kp.set _ B b 3 _)).drew.drew.drew

set_option maxHeartbeats 4000000 in
set_option maxRecDepth 100000 in
/-- Add where the sample goes on in the chunk. -/
theorem plus_on (w : World) (B b cnt clen cent size pos ent : Nat) (X : Nat → Bxd) (f : Nat → Value) (h : Bs w B b O5 X f) (hv : Sv f cnt clen cent pos) (hc0 : 0 < cnt) (hc : cnt ≤ 2000) (hl : clen ≤ 2000) (hp : pos ≤ 1000000) (hz : size ≤ 255) (hN : ∀ o ∈ O5, (X o).N ≤ 2000) (he : ent ≤ 2) (hent : max ent 1 = cent) :
    Calls Ybaf.prog 4 #[.pointer (some ⟨b, 0, none⟩), .agg #[.int .i64 (cnt : Int), .int .i64 (cnt : Int), .int .u32 1, .int .u32 (size : Int), .int .i64 (pos : Int), .bool true, .int .u32 (ent : Int)]] w fun e w' => e = .returned .nilIface ∧ ∃ X' f', Bs w' B b O5 X' f' ∧ Sv f' (cnt + 1) (clen + 1) cent (pos + size) ∧ X' 20 = X 20 ∧ X' 24 = X 24 ∧ (∀ o ∈ O5, (X' o).N ≤ (X o).N + 1) ∧ Kp w w' B b := by
  obtain ⟨e3, he3, he3b⟩ := hv.s3
  have hbl := h.kt.lt
  have hS := Sm.new w cnt size pos ent
  have hB1 := h.grown (World.grownBy_alloc w (.cells #[.int .i64 (cnt : Int), .int .i64 (cnt : Int), .int .u32 1, .int .u32 (size : Int), .int .i64 (pos : Int), .bool true, .int .u32 (ent : Int)] 33) none)
  have hK1 := Kp.grown B b (World.grownBy_alloc w (.cells #[.int .i64 (cnt : Int), .int .i64 (cnt : Int), .int .u32 1, .int .u32 (size : Int), .int .i64 (pos : Int), .bool true, .int .u32 (ent : Int)] 33) none)
  have c0 := hv.s0 ▸ h.sc 0 (by unfold Sp; omega)
  have c1 := hv.s1 ▸ h.sc 1 (by unfold Sp; omega)
  have d0 : ((cnt : Int) == 357913939) = false := by simp; omega
  have d1 : ((cnt : Int) == 0) = false := by simp; omega
  have w1 : IntKind.i64.wrap (cnt : Int) = (cnt : Int) := by rw [IntKind.wrap_i64]; omega
  have hsb : w.heap.size ≠ b := by omega
  go_enter Ybaf.func4, Ybaf.ntmps4
  go_wp2_with fail
  generalize hsz : w.heap.size = S at *
  have hS0 := hS.s0
  have k1 := hv.s1 ▸ hB1.sc 1 (by unfold Sp; omega)
  clear c0 c1
  generalize w.alloc (.cells #[.int .i64 (cnt : Int), .int .i64 (cnt : Int), .int .u32 1, .int .u32 (size : Int), .int .i64 (pos : Int), .bool true, .int .u32 (ent : Int)] 33) = W1 at *
  go_quiet (fail)
  have hB2 := hB1.grown (grown_drewN (grown_refl W1 none) nq)
  have hK2 := hK1.trans (Kp.grown B b (grown_drewN (grown_refl W1 none) nq))
  have hS2 := hS.kept (Kp.grown B b (grown_drewN (grown_refl W1 none) nq)) hsb
  clear hB1 hK1 hS hS0 k1
  generalize W1.drewN nq = W2 at *
  have k0 := hv.s0 ▸ hB2.sc 0 (by unfold Sp; omega)
  have m2 := hS2.s2
  have n4 : (X 4).N ≤ 2000 := hN 4 (by decide)
  have n8 : (X 8).N ≤ 2000 := hN 8 (by decide)
  have n16 : (X 16).N ≤ 2000 := hN 16 (by decide)
  have HR : Hid (∀ w', W2.grownBy w' none → Calls Ybaf.prog 9 #[.pointer (some ⟨b, 4, none⟩), .int .u32 1] w' fun e w'' => e = .returned (.tuple #[]) ∧ ∃ x, Bs w'' B b O5 (upd X 4 x) f ∧ x.N ≤ (X 4).N + 1 ∧ Kp W2 w'' B b) := fun w' hw => (run_bs (hB2.grown hw) 4 (by decide) (Or.inl rfl) 1 (by decide) (by omega)).mono fun e w'' ⟨he, x, h1, h2, _, h4⟩ => ⟨he, x, h1, h2, (Kp.grown B b hw).trans h4⟩
  go_wp2_with fail
  go_region_with (first
    | (go_at_call 9; refine (HR.out _ ?_).mono ?_; (first | exact grown_refl _ _ | exact grown_drew (grown_refl _ _)); rintro e W3 ⟨rfl, x4, hB3, hx4, hK3⟩))
  have hS3 := hS2.kept hK3 hsb
  have hK3' := hK2.trans hK3
  clear HR hB2 hK2 hS2 hK3 k0 m2
  generalize hX4 : upd X 4 x4 = X4 at *
  have n8' : (X4 8).N ≤ 2000 := by rw [← hX4]; exact n8
  have HR : Hid (∀ w', W3.grownBy w' none → Calls Ybaf.prog 9 #[.pointer (some ⟨b, 8, none⟩), .int .u32 0] w' fun e w'' => e = .returned (.tuple #[]) ∧ ∃ x, Bs w'' B b O5 (upd X4 8 x) f ∧ x.N ≤ (X4 8).N + 1 ∧ Kp W3 w'' B b) := fun w' hw => (run_bs (hB3.grown hw) 8 (by decide) (Or.inr rfl) 0 (by decide) (by omega)).mono fun e w'' ⟨he, x, h1, h2, _, h4⟩ => ⟨he, x, h1, h2, (Kp.grown B b hw).trans h4⟩
  go_wp2_with fail
  refine (HR.out _ ?_).mono ?_
  · exact grown_refl _ _
  rintro e W4 ⟨rfl, x8, hB4, hx8, hK4⟩
  have hS4 := hS3.kept hK4 hsb
  have hK4' := hK3'.trans hK4
  clear HR hB3 hK3' hS3 hK4
  generalize hX8 : upd X4 8 x8 = X8 at *
  have n16' : (X8 16).N ≤ 2000 := by rw [← hX8, ← hX4]; exact n16
  have m5 := hS4.s5
  have k12 := hv.s12 ▸ hB4.sc 12 (by unfold Sp; omega)
  have hnq : ∀ w' : World, (binOp .neq 25 (.slice none 0 0) (.slice none 0 0)).run Ybaf.prog w' = .ok (.bool false) w' := fun w' => run_neq_slice_nil w' 25 5 none 0 0 Ybaf.underlying25
  have m3 := hS4.s3
  have HZ : Hid (∀ (w' : World) (s : Nat), W4.grownBy w' none → W4.heap.size ≤ s → w'.cell? ⟨s, 0, none⟩ = some (.int .u32 (size : Int)) → Calls Ybaf.prog 10 #[.pointer (some ⟨b, 16, none⟩), .slice (some ⟨s, 0, none⟩) 1 1] w' fun e w'' => e = .returned (.tuple #[]) ∧ ∃ x, Bs w'' B b O5 (upd X8 16 x) f ∧ x.N = (X8 16).N + 1 ∧ x.hd = (X8 16).hd ∧ Kp W4 w'' B b) := fun w' s hw hs hc => size_bs hB4 (by decide) size (by omega) (by omega) hw hs hc
  go_wp2_with fail
  go_region_with (first
    | (go_at_call 10; refine (HZ.out _ _ ?_ ?_ ?_).mono ?_; (first | exact grown_alloc (grown_drew (grown_refl _ _)) _ | exact grown_drew (grown_alloc (grown_refl _ _) _)); (first | exact Nat.le_refl _ | simp); (first | exact (World.cell?_alloc_at _ _ _ _ rfl).trans rfl | simp); rintro e W5 ⟨rfl, x16, hB5, hx16, _, hK5⟩))
  have hS5 := hS4.kept hK5 hsb
  have hK5' := hK4'.trans hK5
  clear HZ hB4 hK4' hS4 hK5 m5 k12 m3 hnq
  generalize hX16 : upd X8 16 x16 = X16 at *
  have hmx : max (ent : Int) 1 = (cent : Int) := by omega
  have m6 := hS5.s6
  have m4 := hS5.s4
  have k0 := hv.s0 ▸ hB5.sc 0 (by unfold Sp; omega)
  have k29 := hv.s29 ▸ hB5.sc 29 (by unfold Sp; omega)
  have k30 := hv.s30 ▸ hB5.sc 30 (by unfold Sp; omega)
  go_wp2_with fail
  go_quiet (fail)
  have hB6 := hB5.grown (grown_drewN (grown_refl W5 none) nq)
  have hK6 := hK5'.trans (Kp.grown B b (grown_drewN (grown_refl W5 none) nq))
  have hS6 := hS5.kept (Kp.grown B b (grown_drewN (grown_refl W5 none) nq)) hsb
  clear hB5 hK5' hS5 m6 m4 k0 k29 k30
  generalize W5.drewN nq = W6 at *
  have m1 := hS6.s1
  have m2 := hS6.s2
  have m3 := hS6.s3
  have m4 := hS6.s4
  have k0 := hv.s0 ▸ hB6.sc 0 (by unfold Sp; omega)
  have k1 := hv.s1 ▸ hB6.sc 1 (by unfold Sp; omega)
  have k2 := hv.s2 ▸ hB6.sc 2 (by unfold Sp; omega)
  have k3 := he3 ▸ hB6.sc 3 (by unfold Sp; omega)
  have k28 := hv.s28 ▸ hB6.sc 28 (by unfold Sp; omega)
  have k30 := hv.s30 ▸ hB6.sc 30 (by unfold Sp; omega)
  have fz := hB6.fz
  have u28 : IntKind.u32.wrap ((clen : Int) + 1) = (clen : Int) + 1 := by rw [IntKind.wrap_u32]; omega
  have u0 : IntKind.u32.wrap ((cnt : Int) + 1) = (cnt : Int) + 1 := by rw [IntKind.wrap_u32]; omega
  have u1 : IntKind.u64.wrap ((cnt : Int) + 1) = (cnt : Int) + 1 := by rw [IntKind.wrap_u64]; omega
  have usz : IntKind.i64.wrap (size : Int) = (size : Int) := by rw [IntKind.wrap_i64]; omega
  have u30 : IntKind.i64.wrap ((pos : Int) + (size : Int)) = (pos : Int) + (size : Int) := by rw [IntKind.wrap_i64]; omega
  have hmn : min (0 : Int) (cnt : Int) = 0 := by omega
  obtain ⟨e4, he4⟩ : ∃ e4 : Nat, max (e3 : Int) ((pos : Int) + (size : Int)) = (e4 : Int) := ⟨max e3 (pos + size), by omega⟩
  have he4b : e4 ≤ 10000000 := by omega
  go_wp2_with fail
  go_region
  go_wp2_with fail
  go_region
  go_wp2_with fail
  go_region
  go_wp2_with fail
  go_ret
  obtain ⟨f', hBf, hvf, hKf⟩ := tail_bs (cnt := cnt + 1) (clen := clen + 1) (cent := cent) (cend := pos + size) (e4 := e4) hB6 hv.s12 hv.s29 he4b ((clen : Int) + 1) ((pos : Int) + (size : Int)) ((cnt : Int) + 1) (by omega) (by omega) (by omega)
  refine ⟨rfl, X16, f', hBf, hvf, ?_, ?_, ?_, hK6.trans hKf⟩
  · rw [← hX16, ← hX8, ← hX4]; rfl
  · rw [← hX16, ← hX8, ← hX4]; rfl
  · intro o ho
    rw [← hX8, ← hX4] at hx16
    rw [← hX4] at hx8
    rw [← hX16, ← hX8, ← hX4]
    simp [O5] at ho
    rcases ho with rfl | rfl | rfl | rfl | rfl
    · exact Nat.le_succ _
    · exact Nat.le_succ _
    · show x16.N ≤ _; rw [hx16]; exact Nat.le_refl _
    · show x8.N ≤ _; exact hx8
    · show x4.N ≤ _; exact hx4

end Go.Proofs.YbulksxoFmt.Bx
