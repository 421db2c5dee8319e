import Derived.Test.YbulkstgFmtElemTwo
import Derived.Test.YbulkstgFmtDigits
namespace Go.Proofs.YbulkstgFmt.Tk
open Go Go.RowKit

/-- A parser that has just been made. -/
theorem Ps.start {w : World} {g n c : Nat} {T : Nat → Tok} (hg : g < w.heap.size) (hnc : n ≤ c) (hbd : n ≤ 5000)
    (t0 : ∀ j, j < n → w.cell? ⟨g, j * 5, none⟩ = some (.int .i64 (T j).kind)) (t1 : ∀ j, j < n → w.cell? ⟨g, j * 5 + 1, none⟩ = some (.string (T j).text)) (t2 : ∀ j, j < n → w.cell? ⟨g, j * 5 + 2, none⟩ = some (.string (T j).file))
    (t3 : ∀ j, j < n → w.cell? ⟨g, j * 5 + 3, none⟩ = some (.int .i64 (T j).line)) (t4 : ∀ j, j < n → w.cell? ⟨g, j * 5 + 4, none⟩ = some (.int .i64 (T j).col)) :
    Ps (w.alloc (.cells #[.slice (some ⟨g, 0, none⟩) n c, .int .i64 0, .pointer none] 33)) w.heap.size g n c T 0 := by
  have k := World.grownBy_alloc w (.cells #[.slice (some ⟨g, 0, none⟩) n c, .int .i64 0, .pointer none] 33) none
  have e : ∀ a v, w.cell? a = some v → (w.alloc (.cells #[.slice (some ⟨g, 0, none⟩) n c, .int .i64 0, .pointer none] 33)).cell? a = some v := fun a v ha => k.cell ha (by simp)
  exact ⟨by simp, by simp; omega, by omega, Nat.zero_le _, hnc, hbd, World.cell?_alloc_at _ _ _ _ rfl, World.cell?_alloc_at _ _ _ _ rfl, World.cell?_alloc_at _ _ _ _ rfl, by rw [frozen?_alloc_cells]; simp [World.frozen?],
    fun j hj => e _ _ (t0 j hj), fun j hj => e _ _ (t1 j hj), fun j hj => e _ _ (t2 j hj), fun j hj => e _ _ (t3 j hj), fun j hj => e _ _ (t4 j hj)⟩

/-- A run of digits is no word and no sign. -/
theorem tis_digits (k : Int) (s f : ByteArray) (l c : Int) (hs0 : 0 < s.data.toList.length) (hs1 : ∀ x ∈ s.data.toList, 48 ≤ x.toNat ∧ x.toNat ≤ 57) (xs : List UInt8) (hx : ∀ x ∈ xs, ¬ (48 ≤ x.toNat ∧ x.toNat ≤ 57)) : tis ⟨k, s, f, l, c⟩ ⟨xs.toArray⟩ = false := by
  have : (s.toList == (⟨xs.toArray⟩ : ByteArray).toList) = false := by
    rw [ByteArray.toList_eq, ByteArray.toList_eq]
    simp only [beq_eq_false_iff_ne]
    intro e
    have e' : s.data.toList = xs := by simpa using e
    cases xs with
    | nil => rw [e'] at hs0; simp at hs0
    | cons x r => exact hx x (by simp) (hs1 x (by rw [e']; simp))
  show ((k != 0) && (s.toList == _)) = false
  rw [this, Bool.and_false]

def tSize : Tok := ⟨1, ⟨#[83, 73, 90, 69]⟩, ⟨#[]⟩, 1, 1⟩
def tOpen : Tok := ⟨7, ⟨#[40]⟩, ⟨#[]⟩, 2, 1⟩
def tClose : Tok := ⟨7, ⟨#[41]⟩, ⟨#[]⟩, 4, 1⟩
def tNum (s : ByteArray) : Tok := ⟨3, s, ⟨#[]⟩, 3, 5⟩
def T4 (s : ByteArray) (j : Nat) : Tok := if j = 0 then tSize else if j = 1 then tOpen else if j = 2 then tNum s else tClose
def T3 (s : ByteArray) (j : Nat) : Tok := if j = 0 then tOpen else if j = 1 then tNum s else tClose

theorem size_is : tis tSize ⟨#[83, 73, 90, 69]⟩ = true := by decide +kernel
theorem open_is : tis tOpen ⟨#[40]⟩ = true := by decide +kernel
theorem open_no : tis tOpen ⟨#[83, 73, 90, 69]⟩ = false := by decide +kernel
theorem close_is : tis tClose ⟨#[41]⟩ = true := by decide +kernel
theorem close_no : tis tClose ⟨#[33]⟩ = false := by decide +kernel
theorem close_set : NoSet tClose := ⟨by decide +kernel, by decide +kernel, by decide +kernel, by decide +kernel, by decide +kernel, by decide +kernel⟩

theorem num_kw (s : ByteArray) (hs0 : 0 < s.data.toList.length) (hs1 : ∀ x ∈ s.data.toList, 48 ≤ x.toNat ∧ x.toNat ≤ 57) : NoKw (tNum s) ∧ NoCon (tNum s) ∧ tis (tNum s) ⟨#[123]⟩ = false ∧ tis (tNum s) ⟨#[45]⟩ = false := by
  have h := fun xs hx => tis_digits 3 s ⟨#[]⟩ 3 5 hs0 hs1 xs hx
  exact ⟨⟨h [83, 73, 90, 69] (by decide), h [40] (by decide), h [70, 82, 79, 77] (by decide), h [65, 76, 76] (by decide), h [73, 78, 67, 76, 85, 68, 69, 83] (by decide), h [87, 73, 84, 72] (by decide), h [80, 65, 84, 84, 69, 82, 78] (by decide)⟩,
    ⟨h [123] (by decide), h [67, 79, 78, 84, 65, 73, 78, 73, 78, 71] (by decide), h [69, 78, 67, 79, 68, 69, 68] (by decide), h [67, 79, 78, 83, 84, 82, 65, 73, 78, 69, 68] (by decide), h [87, 73, 84, 72] (by decide), h [80, 65, 84, 84, 69, 82, 78] (by decide), h [83, 69, 84, 84, 73, 78, 71, 83] (by decide)⟩,
    h [123] (by decide), h [45] (by decide)⟩

/-- The number as an element. -/
theorem num_elem (B g n c i : Nat) (T : Nat → Tok) (s : ByteArray) (hs0 : 0 < s.data.toList.length) (hs1 : ∀ x ∈ s.data.toList, 48 ≤ x.toNat ∧ x.toNat ≤ 57) (ht : tokAt n T i = tNum s) (hc : tokAt n T (i + 1) = tClose) : ElemOk B g n c T i (i + 1) := by
  obtain ⟨k1, _, k3, k4⟩ := num_kw s hs0 hs1
  intro w h
  refine elem_plain w B g n c i (i + 1) T h ?_ (by rw [ht]; exact k1) (by rw [hc]; decide +kernel) (by rw [hc]; decide)
  intro w h
  have := value_one w B g n c i T h (by rw [ht]; exact Or.inl rfl) (by rw [ht]; exact k3) (by rw [ht]; exact k4)
  rw [show i + 1 - i = 1 by omega]
  exact this

set_option maxRecDepth 100000 in
set_option maxHeartbeats 1000000 in
theorem law_size (w : World) (N : Int) (h0 : 0 ≤ N) (hN : N < 4294967296) :
    Calls Ybaf.prog 5 #[.bool true, .int .u32 N] w fun e w' => e = .returned (.bool true) ∧ Below w.heap.size w w' := by
  go_enter Ybaf.func5, Ybaf.ntmps5
  go_wp2_with fail
  refine (digits_any _ N h0 hN).mono ?_
  rintro e w1 ⟨s, rfl, hs0, hs1, hg1⟩
  have HS0 : Hid _ := hs0
  have HS1 : Hid _ := hs1
  clear hs0 hs1
  go_wp2_with fail
  have kn := C5.new w1 (.int .i64 3) (.string s) (.string ⟨#[]⟩) (.int .i64 3) (.int .i64 5) 28
  generalize hwa : w1.alloc (.cells #[.int .i64 3, .string s, .string ⟨#[]⟩, .int .i64 3, .int .i64 5] 28) = wa at *
  have za : wa.heap.size = w1.heap.size + 1 := by rw [← hwa]; simp
  have ga : w.grownBy wa none := by rw [← hwa]; exact grown_alloc hg1 _
  have ko := C5.new wa (.int .i64 7) (.string ⟨#[40]⟩) (.string ⟨#[]⟩) (.int .i64 2) (.int .i64 1) 28
  generalize hwb : wa.alloc (.cells #[.int .i64 7, .string ⟨#[40]⟩, .string ⟨#[]⟩, .int .i64 2, .int .i64 1] 28) = wb at *
  have zb : wb.heap.size = w1.heap.size + 1 + 1 := by rw [← hwb, ← za]; simp
  have gb : wa.grownBy wb none := by rw [← hwb]; exact World.grownBy_alloc _ _ _
  generalize hwc : wb.alloc (.cells #[.int .i64 7, .string ⟨#[41]⟩, .string ⟨#[]⟩, .int .i64 4, .int .i64 1] 28) = wc at *
  have zc : wc.heap.size = w1.heap.size + 1 + 1 + 1 := by rw [← hwc, ← zb]; simp
  have gc : wb.grownBy wc none := by rw [← hwc]; exact World.grownBy_alloc _ _ _
  have tk : ∀ j x, #[Value.int .i64 1, .string ⟨#[83, 73, 90, 69]⟩, .string ⟨#[]⟩, .int .i64 1, .int .i64 1, .int .i64 7, .string ⟨#[40]⟩, .string ⟨#[]⟩, .int .i64 2, .int .i64 1, .int .i64 3, .string s, .string ⟨#[]⟩, .int .i64 3, .int .i64 5, .int .i64 7, .string ⟨#[41]⟩, .string ⟨#[]⟩, .int .i64 4, .int .i64 1][j]? = some x → (wc.alloc (.cells #[Value.int .i64 1, .string ⟨#[83, 73, 90, 69]⟩, .string ⟨#[]⟩, .int .i64 1, .int .i64 1, .int .i64 7, .string ⟨#[40]⟩, .string ⟨#[]⟩, .int .i64 2, .int .i64 1, .int .i64 3, .string s, .string ⟨#[]⟩, .int .i64 3, .int .i64 5, .int .i64 7, .string ⟨#[41]⟩, .string ⟨#[]⟩, .int .i64 4, .int .i64 1] 28)).cell? ⟨wc.heap.size, j, none⟩ = some x := fun j x hx => (World.cell?_alloc_at _ _ _ _ rfl).trans hx
  generalize hwd : wc.alloc (.cells #[Value.int .i64 1, .string ⟨#[83, 73, 90, 69]⟩, .string ⟨#[]⟩, .int .i64 1, .int .i64 1, .int .i64 7, .string ⟨#[40]⟩, .string ⟨#[]⟩, .int .i64 2, .int .i64 1, .int .i64 3, .string s, .string ⟨#[]⟩, .int .i64 3, .int .i64 5, .int .i64 7, .string ⟨#[41]⟩, .string ⟨#[]⟩, .int .i64 4, .int .i64 1] 28) = wd at *
  have zd : wd.heap.size = wc.heap.size + 1 := by rw [← hwd]; simp
  have gd : wc.grownBy wd none := by rw [← hwd]; exact World.grownBy_alloc _ _ _
  have hP : Ps (wd.alloc (.cells #[.slice (some ⟨wc.heap.size, 0, none⟩) 4 4, .int .i64 0, .pointer none] 33)) wd.heap.size wc.heap.size 4 4 (T4 s) 0 := by
    refine Ps.start (by omega) (Nat.le_refl _) (by decide) ?_ ?_ ?_ ?_ ?_
    all_goals
      intro j hj
      match j, hj with
      | 0, _ => exact tk _ _ rfl
      | 1, _ => exact tk _ _ rfl
      | 2, _ => exact tk _ _ rfl
      | 3, _ => exact tk _ _ rfl
  rw [show w1.heap.size + 1 + 1 + 1 + 1 = wd.heap.size by omega, show w1.heap.size + 1 + 1 + 1 = wc.heap.size by omega, show w1.heap.size + 1 + 1 = wb.heap.size by omega, show w1.heap.size + 1 = wa.heap.size by omega]
  have gP := World.grownBy_alloc wd (.cells #[.slice (some ⟨wc.heap.size, 0, none⟩) 4 4, .int .i64 0, .pointer none] 33) none
  have kn2 := kn.later (grown_trans (grown_trans (grown_trans gb gc) gd) gP) (by simp)
  have ko2 := ko.later (grown_trans (grown_trans gc gd) gP) (by simp)
  have gW := grown_trans (grown_trans (grown_trans (grown_trans ga gb) gc) gd) gP
  have lo : w.heap.size ≤ w1.heap.size := hg1.size
  generalize wd.alloc (.cells #[.slice (some ⟨wc.heap.size, 0, none⟩) 4 4, .int .i64 0, .pointer none] 33) = we at *
  have l1 : w1.heap.size < wa.heap.size := by omega
  have l2 : wa.heap.size < wd.heap.size := by omega
  have l3 : w.heap.size ≤ wc.heap.size := by omega
  clear hwa hwb hwc hwd za zb zc zd gP ga gb gc gd kn ko tk
  generalize w1.heap.size = bn at *
  generalize wa.heap.size = bo at *
  generalize wb.heap.size = bc at *
  generalize wc.heap.size = bg at *
  generalize wd.heap.size = bB at *
  have hel := elem_size we bB bg 4 4 0 3 (T4 s) hP (by exact size_is) (num_elem bB bg 4 4 2 (T4 s) s HS0.out HS1.out rfl rfl) (by exact open_is) (by exact (num_kw s HS0.out HS1.out).2.1) (by show (3 : Int) ≠ 5; decide) close_set (by exact close_no) (by exact close_is)
  rw [show tokAt 4 (T4 s) 0 = ⟨1, ⟨#[83, 73, 90, 69]⟩, ⟨#[]⟩, 1, 1⟩ from rfl, show tokAt 4 (T4 s) (0 + 1) = ⟨7, ⟨#[40]⟩, ⟨#[]⟩, 2, 1⟩ from rfl, show tokAt 4 (T4 s) (0 + 1 + 1) = ⟨3, s, ⟨#[]⟩, 3, 5⟩ from rfl] at hel
  dsimp only at hel
  refine hel.mono ?_
  clear hel hP
  rintro e w6 ⟨F, C, Q, S, u, cu, v, cv, E, rfl, hF, hC, hQ, hA, hg6, hP6⟩
  have kn6 := kn2.later hg6 (by intro e; simp at e; omega)
  have ko6 := ko2.later hg6 (by intro e; simp at e; omega)
  have gZ := grown_trans (grown_some gW (some bB)) hg6
  have hBel : Below w.heap.size w w6 := ⟨gZ.os, gZ.tape, gZ.output, gZ.size, fun k hk => gZ.block k hk (by intro e; simp at e; omega)⟩
  clear kn2 ko2 hg6 gW gZ HS0 HS1
  obtain ⟨_, f0, f1, f2, f3, f4, f5, f6, f7, f8, f9, f10, _⟩ := hF
  obtain ⟨_, d0, d1, d2, d3, d4, d5⟩ := hC
  obtain ⟨_, q0, q1, q2⟩ := hQ
  obtain ⟨_, _, _, _, c1, c2, c3, hE⟩ := hA
  obtain ⟨_, n0, n1, n2, n3, n4, _⟩ := kn6
  obtain ⟨_, o0, o1, o2, o3, o4, _⟩ := ko6
  have p1 : w6.cell? ⟨bB, 1, none⟩ = some (.int .i64 4) := hP6.p1
  have x0 : w6.cell? ⟨bg, 2, none⟩ = some (.string ⟨#[]⟩) := hP6.t2 0 (by decide)
  have x1 : w6.cell? ⟨bg, 3, none⟩ = some (.int .i64 1) := hP6.t3 0 (by decide)
  have x2 : w6.cell? ⟨bg, 4, none⟩ = some (.int .i64 1) := hP6.t4 0 (by decide)
  have y0 : w6.cell? ⟨bg, 10, none⟩ = some (.int .i64 3) := hP6.t0 2 (by decide)
  have y1 : w6.cell? ⟨bg, 11, none⟩ = some (.string s) := hP6.t1 2 (by decide)
  have y2 : w6.cell? ⟨bg, 12, none⟩ = some (.string ⟨#[]⟩) := hP6.t2 2 (by decide)
  have y3 : w6.cell? ⟨bg, 13, none⟩ = some (.int .i64 3) := hP6.t3 2 (by decide)
  have y4 : w6.cell? ⟨bg, 14, none⟩ = some (.int .i64 5) := hP6.t4 2 (by decide)
  have e0 := hE.e0
  have e1 := hE.e1
  have e2 := hE.e2
  have e3 := hE.e3
  have e4 : w6.cell? ⟨E, 4, none⟩ = some (.slice (some ⟨bg, 10, none⟩) 1 2) := hE.e4
  clear hE hP6
  go_wp2
  go_quiet (fail)
  go_wp2
  go_quiet (fail)
  go_wp2
  go_quiet (fail)
  go_wp2
  go_ret
  exact ⟨rfl, by repeat (first | exact hBel | refine below_drewN ?_ _)⟩
end Go.Proofs.YbulkstgFmt.Tk
