import Derived.Test.YbulkstgFmtVal
namespace Go.Proofs.YbulkstgFmt.Tk
open Go Go.RowKit

theorem field0 (t : Tok) (w : World) : (Instr.field 28 (.agg #[.int .i64 t.kind, .string t.text, .string t.file, .int .i64 t.line, .int .i64 t.col]) 0).run Ybaf.prog w = .ok (.int .i64 t.kind) w := by kernel_rfl
theorem field2 (t : Tok) (w : World) : (Instr.field 28 (.agg #[.int .i64 t.kind, .string t.text, .string t.file, .int .i64 t.line, .int .i64 t.col]) 2).run Ybaf.prog w = .ok (.agg #[.string t.file, .int .i64 t.line, .int .i64 t.col]) w := by kernel_rfl

/-- None of the words at which an element is no value. -/
structure NoKw (t : Tok) : Prop where
  k0 : tis t ⟨#[83, 73, 90, 69]⟩ = false
  k1 : tis t ⟨#[40]⟩ = false
  k2 : tis t ⟨#[70, 82, 79, 77]⟩ = false
  k3 : tis t ⟨#[65, 76, 76]⟩ = false
  k4 : tis t ⟨#[73, 78, 67, 76, 85, 68, 69, 83]⟩ = false
  k5 : tis t ⟨#[87, 73, 84, 72]⟩ = false
  k6 : tis t ⟨#[80, 65, 84, 84, 69, 82, 78]⟩ = false

/-- An element in memory. -/
structure El (w : World) (E : Nat) (kind : Int) (file : ByteArray) (line col : Int) (val lo hi : Value) (lob hib : Bool) (sub nested : Value) : Prop where
  lt : E < w.heap.size
  e0 : w.cell? ⟨E, 0, none⟩ = some (.int .i64 kind)
  e1 : w.cell? ⟨E, 1, none⟩ = some (.string file)
  e2 : w.cell? ⟨E, 2, none⟩ = some (.int .i64 line)
  e3 : w.cell? ⟨E, 3, none⟩ = some (.int .i64 col)
  e4 : w.cell? ⟨E, 4, none⟩ = some val
  e5 : w.cell? ⟨E, 5, none⟩ = some lo
  e6 : w.cell? ⟨E, 6, none⟩ = some hi
  e7 : w.cell? ⟨E, 7, none⟩ = some (.bool lob)
  e8 : w.cell? ⟨E, 8, none⟩ = some (.bool hib)
  e9 : w.cell? ⟨E, 9, none⟩ = some sub
  e10 : w.cell? ⟨E, 10, none⟩ = some nested
  fz : ∀ j, w.frozen? ⟨E, j, none⟩ = false

theorem El.later {w w1 : World} {E : Nat} {kind : Int} {file : ByteArray} {line col : Int} {val lo hi : Value} {lob hib : Bool} {sub nested : Value} {r : Option Nat} (h : El w E kind file line col val lo hi lob hib sub nested) (k : w.grownBy w1 r) (hr : some E ≠ r) : El w1 E kind file line col val lo hi lob hib sub nested :=
  ⟨Nat.lt_of_lt_of_le h.lt k.size, k.cell h.e0 hr, k.cell h.e1 hr, k.cell h.e2 hr, k.cell h.e3 hr, k.cell h.e4 hr, k.cell h.e5 hr, k.cell h.e6 hr, k.cell h.e7 hr, k.cell h.e8 hr, k.cell h.e9 hr, k.cell h.e10 hr, fun j => by
    rw [World.frozen?_of_block (w := w) (k.block E h.lt hr)]; exact h.fz j⟩

theorem El.new (w : World) (kind : Int) (file : ByteArray) (line col : Int) (val lo hi : Value) (lob hib : Bool) (sub nested : Value) (ty : TypeId) :
    El (w.alloc (.cells #[.int .i64 kind, .string file, .int .i64 line, .int .i64 col, val, lo, hi, .bool lob, .bool hib, sub, nested] ty)) w.heap.size kind file line col val lo hi lob hib sub nested :=
  ⟨by simp, World.cell?_alloc_at _ _ _ _ rfl, World.cell?_alloc_at _ _ _ _ rfl, World.cell?_alloc_at _ _ _ _ rfl, World.cell?_alloc_at _ _ _ _ rfl, World.cell?_alloc_at _ _ _ _ rfl, World.cell?_alloc_at _ _ _ _ rfl, World.cell?_alloc_at _ _ _ _ rfl, World.cell?_alloc_at _ _ _ _ rfl, World.cell?_alloc_at _ _ _ _ rfl, World.cell?_alloc_at _ _ _ _ rfl, World.cell?_alloc_at _ _ _ _ rfl, fun j => by rw [frozen?_alloc_cells]; simp [World.frozen?]⟩

theorem El.set7 {w : World} {E : Nat} {kind : Int} {file : ByteArray} {line col : Int} {val lo hi : Value} {lob hib : Bool} {sub nested : Value} (h : El w E kind file line col val lo hi lob hib sub nested) (b : Bool) : El (w.setCell ⟨E, 7, none⟩ (.bool b)) E kind file line col val lo hi b hib sub nested := by
  have e : ∀ o u, o ≠ 7 → w.cell? ⟨E, o, none⟩ = some u → (w.setCell ⟨E, 7, none⟩ (.bool b)).cell? ⟨E, o, none⟩ = some u := fun o u ho hh => (World.cell?_setCell_other _ _ _ _ (fun e => ho (by cases e; rfl))).trans hh
  exact ⟨by rw [World.size_setCell]; exact h.lt, e _ _ (by decide) h.e0, e _ _ (by decide) h.e1, e _ _ (by decide) h.e2, e _ _ (by decide) h.e3, e _ _ (by decide) h.e4, e _ _ (by decide) h.e5, e _ _ (by decide) h.e6, World.cell?_setCell_same _ _ _ h.e7, e _ _ (by decide) h.e8, e _ _ (by decide) h.e9, e _ _ (by decide) h.e10, fun j => by rw [World.frozen?_setCell]; exact h.fz j⟩

/-- What 'value' does where it succeeds. -/
def ValueOk (B g n c : Nat) (T : Nat → Tok) (i i' : Nat) : Prop := ∀ w, Ps w B g n c T i →
  Calls Ybaf.prog 18 #[.pointer (some ⟨B, 0, none⟩)] w fun e w' => e = .returned (.tuple #[.slice (some ⟨g, i * 5, none⟩) (i' - i) (c - i), .nilIface]) ∧ w.grownBy w' (some B) ∧ Ps w' B g n c T i'

set_option maxHeartbeats 1000000 in
theorem elem_plain (w : World) (B g n c i i' : Nat) (T : Nat → Tok) (h : Ps w B g n c T i) (hv : ValueOk B g n c T i i') (hkw : NoKw (tokAt n T i)) (hlt : tis (tokAt n T i') ⟨#[60]⟩ = false) (hr : (tokAt n T i').kind ≠ 6) :
    Calls Ybaf.prog 7 #[.pointer (some ⟨B, 0, none⟩)] w fun e w' => ∃ E, e = .returned (.tuple #[.pointer (some ⟨E, 0, none⟩), .nilIface]) ∧ w.heap.size ≤ E ∧
      El w' E 0 (tokAt n T i).file (tokAt n T i).line (tokAt n T i).col (.slice (some ⟨g, i * 5, none⟩) (i' - i) (c - i)) (.slice none 0 0) (.slice none 0 0) false false (.pointer none) (.pointer none) ∧ w.grownBy w' (some B) ∧ Ps w' B g n c T i' := by
  have HR : Hid _ := hr
  have HLT : Hid _ := hlt
  have hBw := h.hB
  clear hr hlt
  generalize ht : tokAt n T i = t at *
  have HT : Hid _ := ht
  clear ht
  go_enter Ybaf.func7, Ybaf.ntmps7
  go_wp2_with fail
  refine (peek_any _ B g n c i T h).mono ?_
  rw [HT.out]
  rintro e w1 ⟨rfl, hg⟩
  have hP := h.later hg
  go_wp2_with fail
  refine (is_any t _ false _ hkw.k0).mono ?_
  rintro e w2 ⟨rfl, o0, rfl⟩
  go_wp2_with fail
  refine (is_any t _ false _ hkw.k1).mono ?_
  rintro e w2 ⟨rfl, o1, rfl⟩
  go_wp2_with fail
  refine (is_any t _ false _ hkw.k2).mono ?_
  rintro e w2 ⟨rfl, o2, rfl⟩
  go_wp2_with fail
  refine (is_any t _ false _ hkw.k3).mono ?_
  rintro e w2 ⟨rfl, o3, rfl⟩
  go_wp2_with fail
  refine (is_any t _ false _ hkw.k4).mono ?_
  rintro e w2 ⟨rfl, o4, rfl⟩
  go_wp2_with fail
  refine (is_any t _ false _ hkw.k5).mono ?_
  rintro e w2 ⟨rfl, o5, rfl⟩
  go_wp2_with fail
  refine (is_any t _ false _ hkw.k6).mono ?_
  rintro e w2 ⟨rfl, o6, rfl⟩
  go_wp2_with fail
  have hPx := ((((((((hP.later (World.grownBy_alloc _ (.cells #[.int .i64 t.kind, .string t.text, .string t.file, .int .i64 t.line, .int .i64 t.col] 28) _)).later (World.grownBy_alloc _ o0 _)).later (World.grownBy_alloc _ o1 _)).later (World.grownBy_alloc _ o2 _)).later (World.grownBy_alloc _ o3 _)).later (World.grownBy_alloc _ o4 _)).later (World.grownBy_alloc _ o5 _)).later (World.grownBy_alloc _ o6 _))
  have hgx := grown_alloc (grown_alloc (grown_alloc (grown_alloc (grown_alloc (grown_alloc (grown_alloc (grown_alloc hg (.cells #[.int .i64 t.kind, .string t.text, .string t.file, .int .i64 t.line, .int .i64 t.col] 28)) o0) o1) o2) o3) o4) o5) o6
  have hC : C5 _ w1.heap.size _ _ _ _ _ := (C5.new w1 (.int .i64 t.kind) (.string t.text) (.string t.file) (.int .i64 t.line) (.int .i64 t.col) 28).later (grown_alloc (grown_alloc (grown_alloc (grown_alloc (grown_alloc (grown_alloc (grown_alloc (grown_refl _ none) o0) o1) o2) o3) o4) o5) o6) (by simp)
  have hb1 : w.heap.size ≤ w1.heap.size := hg.size
  refine (hv _ hPx).mono ?_
  rintro e w4 ⟨rfl, hg4, hP4⟩
  have hC4 := hC.later hg4 (by intro e; cases e; omega)
  have hg5 := grown_trans (grown_some hgx (some B)) hg4
  clear hPx hgx hC hP hg4 hg h hv hkw
  generalize w1.heap.size = b1 at *
  obtain ⟨cl, u0, u1, u2, u3, u4, _⟩ := hC4
  have hB4 := hP4.hB
  have hg4' := hP4.hg
  go_wp2_with fail
  refine (accept_f _ B g n c i' T _ (hP4.later (World.grownBy_alloc _ _ _)) HLT.out).mono ?_
  rintro e w5 ⟨rfl, hg6⟩
  have hE := (El.new w4 0 t.file t.line t.col (.slice (some ⟨g, i * 5, none⟩) (i' - i) (c - i)) (.slice none 0 0) (.slice none 0 0) false false (.pointer none) (.pointer none) 46).later hg6 (by simp)
  have hP5 := hP4.later (grown_trans (World.grownBy_alloc _ _ _) hg6)
  have hg7 := grown_trans (grown_alloc hg5 _) (grown_some hg6 (some B))
  have hsz : w.heap.size ≤ w4.heap.size := hg5.size
  have d7 := hE.e7
  have df := hE.fz 7
  clear hg6 hg5
  go_wp2_with fail
  refine (peek_any _ B g n c i' T (hP5.other ⟨w4.heap.size, 7, none⟩ (.bool false) (Nat.ne_of_gt hB4) (Nat.ne_of_gt hg4'))).mono ?_
  have hk6 : ((tokAt n T i').kind != 6) = true := by simpa using HR.out
  generalize tokAt n T i' = t6 at *
  rintro e w6 ⟨rfl, hg8⟩
  have hE6 := (hE.set7 false).later hg8 (by simp)
  have hP6 := (hP5.other ⟨w4.heap.size, 7, none⟩ (.bool false) (Nat.ne_of_gt hB4) (Nat.ne_of_gt hg4')).later hg8
  have hg9 := grown_trans (grown_set hg7 ⟨w4.heap.size, 7, none⟩ (.bool false) (Or.inl hsz)) (grown_some hg8 (some B))
  have k7 := hE6.e7
  have hf0 := field0 t6
  clear hg8 hg7 hE hP5 d7 df
  go_wp2
  go_ret2
  exact ⟨_, rfl, hsz, hE6, hg9, hP6⟩

end Go.Proofs.YbulkstgFmt.Tk
