import Derived.Test.YbulksxoFmtBase
namespace Go.Proofs.YbulksxoFmt.Bx
open Go Go.RowKit

theorem under25 : Ybaf.prog.underlying 25 = some (.slice (Ybaf.prog.elem 25)) := by kernel_rfl
theorem size25 (w : World) : (Go.sizeOf (Ybaf.prog.elem 25)).run Ybaf.prog w = .ok 1 w := by
  have h : Ybaf.prog.elem 25 = 5 := by kernel_rfl
  have h4 : Ybaf.prog.cellsOf 5 = 1 := by kernel_rfl
  obtain ⟨i0, hi, _⟩ := info_parts info5
  rw [h, run_sizeOf w hi, h4]
/-- buf[x:] -/
theorem slice_from (w : World) (g n c x : Nat) (y : Int) (hy : y = x) (hx : x < n) (hc : n ≤ c) :
    (Instr.slice 25 (.slice (some ⟨g, 0, none⟩) n c) (some (.int .i64 y)) none none).run Ybaf.prog w = .ok (.slice (some ⟨g, x, none⟩) (n - x) (c - x)) w := by
  subst hy
  rw [run_slice_l w 25 _ n c under25 .i64 x (by omega) (by omega), size25]
  simp only [Result.andThen, sliced, Int.toNat_natCast]
  congr 2
  rw [if_neg (by omega)]
  by_cases h0 : x = 0 <;> simp [Addr.add, h0]

set_option maxHeartbeats 2000000 in
theorem field_any (w : World) (b o g n c head i f x v : Nat) (hv : v < 4294967296) (hh : head ≤ 100) (hi : i < 4294967296) (hf : f ≤ 10) (hx : head + i * 12 + 4 * f = x) (hxn : x + 4 ≤ n) (hn : n ≤ c)
    (e0 : w.cell? ⟨b, o, none⟩ = some (.slice (some ⟨g, 0, none⟩) n c)) (e1 : w.cell? ⟨b, o + 1, none⟩ = some (.int .i64 (head : Int))) (e2 : w.cell? ⟨b, o + 2, none⟩ = some (.int .i64 12))
    (hc : ∀ j, j < 4 → w.cell? ⟨g, x + j, none⟩ = (be v)[j]?) :
    Calls Ybaf.prog 6 #[.pointer (some ⟨b, o, none⟩), .int .u32 (i : Int), .int .i64 (f : Int)] w fun e w' => e = .returned (.int .u32 v) ∧ w.grownBy w' none := by
  have hsl := fun w' => slice_from w' g n c x ((head : Int) + (i : Int) * 12 + 4 * (f : Int)) (by omega) (by omega) hn
  have hcell : ∃ u, w.cell? ⟨g, x, none⟩ = some u := ⟨_, (by have := hc 0 (by decide); rw [be_eq v hv] at this; simpa using this)⟩
  have hu : ∀ w', w.grownBy w' none → Calls Ybaf.prog 12 #[.agg #[], .slice (some ⟨g, x, none⟩) (n - x) (c - x)] w' fun e w'' => e = .returned (.int .u32 v) ∧ w.grownBy w'' none := fun w' hw => (u32_any w' g x (n - x) (c - x) v hv (by omega) (fun j hj => by
    have h1 := hc j hj
    rw [be_eq v hv] at h1 ⊢
    have hsome : ∃ u, ([Value.int .u8 ((v : Int) / 16777216), Value.int .u8 ((v : Int) / 65536 % 256), Value.int .u8 ((v : Int) / 256 % 256), Value.int .u8 ((v : Int) % 256)])[j]? = some u := ⟨_, List.getElem?_eq_getElem (by simp; omega)⟩
    obtain ⟨u, hu⟩ := hsome
    rw [hu] at h1 ⊢
    exact hw.cell h1 (by simp))).mono fun e w'' ⟨he, hg⟩ => ⟨he, grown_trans hw hg⟩
  have HU : Hid _ := hu
  have w0 : IntKind.i64.wrap (i : Int) = i := by rw [IntKind.wrap_i64]; omega
  have w1 : IntKind.i64.wrap ((i : Int) * 12) = (i : Int) * 12 := by rw [IntKind.wrap_i64]; omega
  have w2 : IntKind.i64.wrap ((head : Int) + (i : Int) * 12) = (head : Int) + (i : Int) * 12 := by rw [IntKind.wrap_i64]; omega
  have w3 : IntKind.i64.wrap (4 * (f : Int)) = 4 * (f : Int) := by rw [IntKind.wrap_i64]; omega
  have w4 : IntKind.i64.wrap ((head : Int) + (i : Int) * 12 + 4 * (f : Int)) = (head : Int) + (i : Int) * 12 + 4 * (f : Int) := by rw [IntKind.wrap_i64]; omega
  have HX : Hid _ := hx
  clear hu hc hcell hx
  go_enter Ybaf.func6, Ybaf.ntmps6
  go_wp2
  go_region_held3 (fun w' => w'.cell? ⟨b, o, none⟩ = some (.slice (some ⟨g, 0, none⟩) n c) ∧ w'.cell? ⟨b, o + 1, none⟩ = some (.int .i64 (head : Int)) ∧ w'.cell? ⟨b, o + 2, none⟩ = some (.int .i64 12)) (first | (simp [go_sem, *]; done) | skip) (first
    | (go_at_call 12; refine (HU.out _ (by first | exact grown_refl _ _ | exact grown_drew (grown_refl _ _))).mono ?_; rintro e w5 ⟨rfl, hg5⟩; have x0 := hg5.cell e0 (by simp); have x1 := hg5.cell e1 (by simp); have x2 := hg5.cell e2 (by simp)))
  go_wp2
  go_ret
  exact ⟨rfl, hg5⟩

end Go.Proofs.YbulksxoFmt.Bx
