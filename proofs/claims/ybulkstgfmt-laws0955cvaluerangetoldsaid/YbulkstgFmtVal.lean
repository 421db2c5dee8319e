import Derived.Test.YbulkstgFmtNext
namespace Go.Proofs.YbulkstgFmt.Tk
open Go Go.RowKit

theorem under23 : Ybaf.prog.underlying 23 = some (.slice (Ybaf.prog.elem 23)) := by kernel_rfl
theorem size23 (w : World) : (Go.sizeOf (Ybaf.prog.elem 23)).run Ybaf.prog w = .ok 5 w := by
  have h : Ybaf.prog.elem 23 = 28 := by kernel_rfl
  have h5 : Ybaf.prog.cellsOf 28 = 5 := by kernel_rfl
  obtain ⟨i, hi⟩ : ∃ i, Ybaf.prog.info? 28 = some i := ⟨_, rfl⟩
  rw [h, run_sizeOf w hi, h5]

/-- p.toks[i:j] -/
theorem slice_toks (w : World) (g n c i j : Nat) (hij : i < j) (hj : j ≤ n) (hn : n ≤ c) (x y : Int) (hx : x = i) (hy : y = j) :
    (Instr.slice 23 (.slice (some ⟨g, 0, none⟩) n c) (some (.int .i64 x)) (some (.int .i64 y)) none).run Ybaf.prog w = .ok (.slice (some ⟨g, i * 5, none⟩) (j - i) (c - i)) w := by
  subst hx hy
  rw [run_slice_lh w 23 _ n c under23 .i64 .i64 i j (by omega) (by omega) (by omega), size23]
  simp only [Result.andThen, sliced, Int.toNat_natCast]
  rw [if_neg (by omega)]
  congr 2
  simp [Addr.add]
  intro h; exact h.symm

set_option maxHeartbeats 1000000 in
theorem value_one (w : World) (B g n c i : Nat) (T : Nat → Tok) (h : Ps w B g n c T i) (hk : (tokAt n T i).kind = 3 ∨ (tokAt n T i).kind = 1) (h1 : tis (tokAt n T i) ⟨#[123]⟩ = false) (h2 : tis (tokAt n T i) ⟨#[45]⟩ = false) :
    Calls Ybaf.prog 18 #[.pointer (some ⟨B, 0, none⟩)] w fun e w' => e = .returned (.tuple #[.slice (some ⟨g, i * 5, none⟩) 1 (c - i), .nilIface]) ∧ w.grownBy w' (some B) ∧ Ps w' B g n c T (i + 1) := by
  have hi := lt_of_kind (T := T) (n := n) (i := i) (by rcases hk with h | h <;> rw [h] <;> decide)
  have HK : Hid _ := hk
  have H1 : Hid _ := h1
  have H2 : Hid _ := h2
  have hbd := h.bd
  have p1 := h.p1
  have hBw := h.hB
  have hnc := h.nc
  clear hk h1 h2
  go_enter Ybaf.func18, Ybaf.ntmps18
  go_wp2_with fail
  refine (peek_any _ B g n c i T h).mono ?_
  generalize ht : tokAt n T i = t at HK H1 H2
  have HT : Hid _ := ht
  clear ht
  rintro e w1 ⟨rfl, hg⟩
  have hP := h.later hg
  go_wp2_with fail
  refine (is_any t _ false _ H1.out).mono ?_
  rintro e w2 ⟨rfl, o1, rfl⟩
  go_wp2_with fail
  refine (is_any t _ false _ H2.out).mono ?_
  rintro e w2 ⟨rfl, o2, rfl⟩
  have hk3 : ((t.kind == 3) = true) ∨ ((t.kind == 3) = false ∧ (t.kind == 1) = true) := by rcases HK.out with h | h <;> simp [h]
  have hP2 := ((hP.later (World.grownBy_alloc _ (.cells #[.int .i64 t.kind, .string t.text, .string t.file, .int .i64 t.line, .int .i64 t.col] 28) _)).later (World.grownBy_alloc _ o1 _)).later (World.grownBy_alloc _ o2 _)
  have hg2 := grown_alloc (grown_alloc (grown_alloc hg (.cells #[.int .i64 t.kind, .string t.text, .string t.file, .int .i64 t.line, .int .i64 t.col] 28)) o1) o2
  have hnx := next_any _ B g n c i T hP2 (by rw [HT.out]; rcases HK.out with h | h <;> rw [h] <;> decide)
  have HX : Hid _ := hnx
  have hs := fun w => slice_toks w g n c i (i + 1) (by omega) (by omega) hnc (i : Int) ((i : Int) + 1) rfl (by omega)
  rw [show i + 1 - i = 1 by omega] at hs
  clear hnx
  rcases hk3 with hk3 | ⟨hk3, hk4⟩
  all_goals
    go_wp2_with fail
    refine Calls.mono HX.out ?_
    rintro e w4 ⟨rfl, hg4, hP4⟩
    have p0 := hP4.p0
    have p1' := hP4.p1
    rw [show ((i + 1 : Nat) : Int) = (i : Int) + 1 by omega] at p1'
    clear HX
    go_wp2
    go_quiet (fail)
    go_wp2
    go_ret2
    exact ⟨rfl, grown_drewN (grown_trans (grown_some hg2 _) hg4) _, ⟨hP4.hB, hP4.hg, hP4.ne, hP4.le, hP4.nc, hP4.bd, hP4.p0, hP4.p1, hP4.p2, hP4.fz, hP4.t0, hP4.t1, hP4.t2, hP4.t3, hP4.t4⟩⟩

end Go.Proofs.YbulkstgFmt.Tk
