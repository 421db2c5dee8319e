import Derived.Test.YbulkstgFmtRows
import Derived.WalkKit
import Derived.WalkSpells
import Derived.WalkLawsBesides
import Derived.Handy
import Derived.BigQuiet
import Derived.Deep.RegionWith
namespace Go.Proofs.YbulkstgFmt.Tk
open Go Go.RowKit

/-- A token. -/
structure Tok where
  kind : Int
  text : ByteArray
  file : ByteArray
  line : Int
  col : Int

/-- What 't.is(s)' answers. -/
def tis (t : Tok) (s : ByteArray) : Bool := (t.kind != 0) && (t.text.toList == s.toList)

/-- The token that the parser sees at place i: past the last one an end-of-file token at the last one's place. -/
def tokAt (n : Nat) (T : Nat → Tok) (i : Nat) : Tok :=
  if i < n then T i else if 0 < n then ⟨0, ⟨#[]⟩, (T (n - 1)).file, (T (n - 1)).line, (T (n - 1)).col⟩ else ⟨0, ⟨#[]⟩, ⟨#[]⟩, 0, 0⟩

theorem tokAt_lt {n i : Nat} {T : Nat → Tok} (h : i < n) : tokAt n T i = T i := by simp [tokAt, h]
theorem lt_of_kind {n i : Nat} {T : Nat → Tok} (h : (tokAt n T i).kind ≠ 0) : i < n := by
  rcases Nat.lt_or_ge i n with h1 | h1
  · exact h1
  · exfalso; apply h; unfold tokAt; rw [if_neg (by omega)]; split <;> rfl
theorem lt_of_tis {n i : Nat} {T : Nat → Tok} {s : ByteArray} (h : tis (tokAt n T i) s = true) : i < n := by
  apply lt_of_kind (T := T); intro h0; simp [tis, h0] at h

/-- The parser at block B: its tokens T lie in block g, n of them; it stands at i; it has no end of its own. -/
structure Ps (w : World) (B g n c : Nat) (T : Nat → Tok) (i : Nat) : Prop where
  hB : B < w.heap.size
  hg : g < w.heap.size
  ne : g ≠ B
  le : i ≤ n
  nc : n ≤ c
  bd : n ≤ 5000
  p0 : w.cell? ⟨B, 0, none⟩ = some (.slice (some ⟨g, 0, none⟩) n c)
  p1 : w.cell? ⟨B, 1, none⟩ = some (.int .i64 (i : Int))
  p2 : w.cell? ⟨B, 2, none⟩ = some (.pointer none)
  fz : w.frozen? ⟨B, 1, none⟩ = false
  t0 : ∀ j, j < n → w.cell? ⟨g, j * 5, none⟩ = some (.int .i64 (T j).kind)
  t1 : ∀ j, j < n → w.cell? ⟨g, j * 5 + 1, none⟩ = some (.string (T j).text)
  t2 : ∀ j, j < n → w.cell? ⟨g, j * 5 + 2, none⟩ = some (.string (T j).file)
  t3 : ∀ j, j < n → w.cell? ⟨g, j * 5 + 3, none⟩ = some (.int .i64 (T j).line)
  t4 : ∀ j, j < n → w.cell? ⟨g, j * 5 + 4, none⟩ = some (.int .i64 (T j).col)

theorem grown_trans {w w1 w2 : World} {r : Option Nat} (h : w.grownBy w1 r) (k : w1.grownBy w2 r) : w.grownBy w2 r :=
  ⟨k.os.trans h.os, k.tape.trans h.tape, k.output.trans h.output, Nat.le_trans h.size k.size, fun b hb hne => (k.block b (Nat.lt_of_lt_of_le hb h.size) hne).trans (h.block b hb hne)⟩
theorem grown_some {w w1 : World} (h : w.grownBy w1 none) (r : Option Nat) : w.grownBy w1 r :=
  ⟨h.os, h.tape, h.output, h.size, fun b hb _ => h.block b hb (by simp)⟩
theorem grown_refl (w : World) (r : Option Nat) : w.grownBy w r := ⟨rfl, rfl, rfl, Nat.le_refl _, fun _ _ _ => rfl⟩
theorem grown_alloc {w w1 : World} {r : Option Nat} (h : w.grownBy w1 r) (o : Obj) : w.grownBy (w1.alloc o) r := grown_trans h (World.grownBy_alloc _ _ _)
theorem grown_drew {w w1 : World} {r : Option Nat} (h : w.grownBy w1 r) : w.grownBy w1.drew r := ⟨h.os, h.tape, h.output, h.size, h.block⟩
theorem grown_drewN {w w1 : World} {r : Option Nat} (h : w.grownBy w1 r) (n : Nat) : w.grownBy (w1.drewN n) r := ⟨h.os, h.tape, h.output, h.size, h.block⟩
/-- A store into a block of the call's own, or into the one that may turn. -/
theorem grown_set {w w1 : World} {r : Option Nat} (h : w.grownBy w1 r) (a : Addr) (v : Value) (ha : w.heap.size ≤ a.block ∨ r = some a.block) : w.grownBy (w1.setCell a v) r := by
  refine ⟨h.os, h.tape, h.output, by rw [World.size_setCell]; exact h.size, fun b hb hne => ?_⟩
  rw [Below.heap_setCell _ _ _ _ (by
    rcases ha with ha | ha
    · omega
    · intro e; subst e; exact hne ha.symm)]
  exact h.block b hb hne

theorem Ps.later {w w1 : World} {B g n c : Nat} {T : Nat → Tok} {i : Nat} (h : Ps w B g n c T i) (k : w.grownBy w1 none) : Ps w1 B g n c T i := by
  have e : ∀ a v, w.cell? a = some v → w1.cell? a = some v := fun a v ha => k.cell ha (by simp)
  refine ⟨Nat.lt_of_lt_of_le h.hB k.size, Nat.lt_of_lt_of_le h.hg k.size, h.ne, h.le, h.nc, h.bd, e _ _ h.p0, e _ _ h.p1, e _ _ h.p2, ?_, fun j hj => e _ _ (h.t0 j hj), fun j hj => e _ _ (h.t1 j hj), fun j hj => e _ _ (h.t2 j hj), fun j hj => e _ _ (h.t3 j hj), fun j hj => e _ _ (h.t4 j hj)⟩
  rw [World.frozen?_of_block (w := w) (k.block B h.hB (by simp))]
  exact h.fz

theorem Ps.set {w : World} {B g n c : Nat} {T : Nat → Tok} {i : Nat} (h : Ps w B g n c T i) (i' : Nat) (hi : i' ≤ n) : Ps (w.setCell ⟨B, 1, none⟩ (.int .i64 (i' : Int))) B g n c T i' := by
  have hne := h.ne
  have e : ∀ a v, a ≠ ⟨B, 1, none⟩ → w.cell? a = some v → (w.setCell ⟨B, 1, none⟩ (.int .i64 (i' : Int))).cell? a = some v := fun a v ha h => (World.cell?_setCell_other _ _ _ _ (Ne.symm ha)).trans h
  have ng : ∀ o, (⟨g, o, none⟩ : Addr) ≠ ⟨B, 1, none⟩ := fun o e => by cases e; exact hne rfl
  refine ⟨by rw [World.size_setCell]; exact h.hB, by rw [World.size_setCell]; exact h.hg, h.ne, hi, h.nc, h.bd, e _ _ (by simp) h.p0, World.cell?_setCell_same _ _ _ h.p1, e _ _ (by simp) h.p2, by rw [World.frozen?_setCell]; exact h.fz, fun j hj => e _ _ (ng _) (h.t0 j hj), fun j hj => e _ _ (ng _) (h.t1 j hj), fun j hj => e _ _ (ng _) (h.t2 j hj), fun j hj => e _ _ (ng _) (h.t3 j hj), fun j hj => e _ _ (ng _) (h.t4 j hj)⟩

set_option maxHeartbeats 1000000 in
theorem is_any (t : Tok) (s : ByteArray) (b : Bool) (w : World) (hb : tis t s = b) :
    Calls Ybaf.prog 12 #[.agg #[.int .i64 t.kind, .string t.text, .string t.file, .int .i64 t.line, .int .i64 t.col], .string s] w fun e w' => e = .returned (.bool b) ∧ ∃ o, w' = w.alloc o := by
  by_cases hk : t.kind = 0
  · have hk1 : (t.kind != 0) = false := by simp [hk]
    obtain rfl : b = false := by rw [← hb]; simp [tis, hk]
    clear hb hk
    go_enter Ybaf.func12, Ybaf.ntmps12
    go_wp2
    go_ret
    exact ⟨rfl, _, rfl⟩
  · have hk1 : (t.kind != 0) = true := by simp [hk]
    have hb' : (t.text.toList == s.toList) = b := by rw [← hb]; simp [tis, hk]
    have HB : Hid _ := hb'
    clear hb hb' hk
    go_enter Ybaf.func12, Ybaf.ntmps12
    go_wp2
    go_ret
    exact ⟨by rw [← HB.out]; rfl, _, rfl⟩

set_option maxHeartbeats 1000000 in
theorem peekAt_in (w : World) (B g n c i : Nat) (T : Nat → Tok) (h : Ps w B g n c T i) (hi : i < n) :
    Calls Ybaf.prog 21 #[.pointer (some ⟨B, 0, none⟩), .int .i64 0] w fun e w' => e = .returned (.agg #[.int .i64 (T i).kind, .string (T i).text, .string (T i).file, .int .i64 (T i).line, .int .i64 (T i).col]) ∧ w.grownBy w' none := by
  obtain ⟨hB, hg, hne, hle, hnc, hbd, p0, p1, p2, fz, t0, t1, t2, t3, t4⟩ := h
  have c0 := t0 i hi
  have c1 := t1 i hi
  have c2 := t2 i hi
  have c3 := t3 i hi
  have c4 := t4 i hi
  clear t0 t1 t2 t3 t4
  generalize (T i).kind = k at *
  generalize (T i).text = tx at *
  generalize (T i).file = fl at *
  generalize (T i).line = ln at *
  generalize (T i).col = co at *
  go_enter Ybaf.func21, Ybaf.ntmps21
  go_wp2
  go_quiet (fail)
  go_wp2
  go_region
  go_wp2
  refine bodyPost_ret (v := .agg #[.int .i64 k, .string tx, .string fl, .int .i64 ln, .int .i64 co]) (by simp [results, Ybaf.results21, go_sem]) rfl ⟨rfl, ?_⟩
  repeat (first | (with_reducible exact grown_refl _ _) | (with_reducible refine grown_set ?_ _ _ (Or.inl (Nat.le_refl _))) | (with_reducible refine grown_drewN ?_ _) | (with_reducible refine grown_drew ?_) | (with_reducible refine grown_alloc ?_ _))

set_option maxHeartbeats 1000000 in
theorem peekAt_end (w : World) (B g n c : Nat) (T : Nat → Tok) (h : Ps w B g n c T n) (hn : 0 < n) :
    Calls Ybaf.prog 21 #[.pointer (some ⟨B, 0, none⟩), .int .i64 0] w fun e w' => e = .returned (.agg #[.int .i64 0, .string ⟨#[]⟩, .string (T (n - 1)).file, .int .i64 (T (n - 1)).line, .int .i64 (T (n - 1)).col]) ∧ w.grownBy w' none := by
  obtain ⟨hB, hg, hne, hle, hnc, hbd, p0, p1, p2, fz, t0, t1, t2, t3, t4⟩ := h
  have c2 := t2 (n - 1) (by omega)
  have c3 := t3 (n - 1) (by omega)
  have c4 := t4 (n - 1) (by omega)
  clear t0 t1 t2 t3 t4 hle
  generalize (T (n - 1)).file = fl at *
  generalize (T (n - 1)).line = ln at *
  generalize (T (n - 1)).col = co at *
  go_enter Ybaf.func21, Ybaf.ntmps21
  go_wp2
  go_quiet (fail)
  go_wp2
  go_region
  go_wp2
  refine bodyPost_ret (v := .agg #[.int .i64 0, .string ⟨#[]⟩, .string fl, .int .i64 ln, .int .i64 co]) (by simp [results, Ybaf.results21, go_sem]) rfl ⟨rfl, ?_⟩
  repeat (first | (with_reducible exact grown_refl _ _) | (with_reducible refine grown_set ?_ _ _ (Or.inl (Nat.le_refl _))) | (with_reducible refine grown_drewN ?_ _) | (with_reducible refine grown_drew ?_) | (with_reducible refine grown_alloc ?_ _))

set_option maxHeartbeats 1000000 in
theorem peekAt_none (w : World) (B g c : Nat) (T : Nat → Tok) (h : Ps w B g 0 c T 0) :
    Calls Ybaf.prog 21 #[.pointer (some ⟨B, 0, none⟩), .int .i64 0] w fun e w' => e = .returned (.agg #[.int .i64 0, .string ⟨#[]⟩, .string ⟨#[]⟩, .int .i64 0, .int .i64 0]) ∧ w.grownBy w' none := by
  obtain ⟨hB, hg, hne, hle, hnc, hbd, p0, p1, p2, fz, t0, t1, t2, t3, t4⟩ := h
  clear t0 t1 t2 t3 t4 hle
  go_enter Ybaf.func21, Ybaf.ntmps21
  go_wp2
  go_quiet (fail)
  go_wp2
  refine bodyPost_ret (v := .agg #[.int .i64 0, .string ⟨#[]⟩, .string ⟨#[]⟩, .int .i64 0, .int .i64 0]) (by simp [results, Ybaf.results21, go_sem]) rfl ⟨rfl, ?_⟩
  repeat (first | (with_reducible exact grown_refl _ _) | (with_reducible refine grown_set ?_ _ _ (Or.inl (Nat.le_refl _))) | (with_reducible refine grown_drewN ?_ _) | (with_reducible refine grown_drew ?_) | (with_reducible refine grown_alloc ?_ _))

theorem peekAt_any (w : World) (B g n c i : Nat) (T : Nat → Tok) (h : Ps w B g n c T i) :
    Calls Ybaf.prog 21 #[.pointer (some ⟨B, 0, none⟩), .int .i64 0] w fun e w' => e = .returned (.agg #[.int .i64 (tokAt n T i).kind, .string (tokAt n T i).text, .string (tokAt n T i).file, .int .i64 (tokAt n T i).line, .int .i64 (tokAt n T i).col]) ∧ w.grownBy w' none := by
  by_cases hi : i < n
  · rw [tokAt_lt hi]
    exact peekAt_in w B g n c i T h hi
  · obtain rfl : i = n := by have := h.le; omega
    by_cases hn : 0 < i
    · have e : tokAt i T i = ⟨0, ⟨#[]⟩, (T (i - 1)).file, (T (i - 1)).line, (T (i - 1)).col⟩ := by simp [tokAt, hn]
      rw [e]
      exact peekAt_end w B g i c T h hn
    · obtain rfl : i = 0 := by omega
      exact peekAt_none w B g c T h

/-- A variable of five cells that lay there before a call. -/
theorem slot5 {w w1 : World} {a b c d e : Value} {ty : TypeId} (h : (w.alloc (.cells #[a, b, c, d, e] ty)).grownBy w1 none) :
    w.heap.size < w1.heap.size ∧ w1.cell? ⟨w.heap.size, 0, none⟩ = some a ∧ w1.cell? ⟨w.heap.size, 1, none⟩ = some b ∧ w1.cell? ⟨w.heap.size, 2, none⟩ = some c ∧ w1.cell? ⟨w.heap.size, 3, none⟩ = some d ∧ w1.cell? ⟨w.heap.size, 4, none⟩ = some e ∧
    w1.frozen? ⟨w.heap.size, 0, none⟩ = false ∧ w1.frozen? ⟨w.heap.size, 1, none⟩ = false ∧ w1.frozen? ⟨w.heap.size, 2, none⟩ = false ∧ w1.frozen? ⟨w.heap.size, 3, none⟩ = false ∧ w1.frozen? ⟨w.heap.size, 4, none⟩ = false := by
  have hs : w.heap.size < (w.alloc (.cells #[a, b, c, d, e] ty)).heap.size := by simp
  have hf : ∀ j, w1.frozen? ⟨w.heap.size, j, none⟩ = false := fun j => by
    rw [World.frozen?_of_block (w := w.alloc (.cells #[a, b, c, d, e] ty)) (h.block _ hs (by simp)), frozen?_alloc_cells]
    simp [World.frozen?]
  have hc : ∀ j u, #[a, b, c, d, e][j]? = some u → w1.cell? ⟨w.heap.size, j, none⟩ = some u := fun j u hu => h.cell ((World.cell?_alloc_at _ _ _ _ rfl).trans hu) (by simp)
  exact ⟨Nat.lt_of_lt_of_le hs h.size, hc 0 _ rfl, hc 1 _ rfl, hc 2 _ rfl, hc 3 _ rfl, hc 4 _ rfl, hf 0, hf 1, hf 2, hf 3, hf 4⟩

set_option maxHeartbeats 1000000 in
theorem peek_any (w : World) (B g n c i : Nat) (T : Nat → Tok) (h : Ps w B g n c T i) :
    Calls Ybaf.prog 11 #[.pointer (some ⟨B, 0, none⟩)] w fun e w' => e = .returned (.agg #[.int .i64 (tokAt n T i).kind, .string (tokAt n T i).text, .string (tokAt n T i).file, .int .i64 (tokAt n T i).line, .int .i64 (tokAt n T i).col]) ∧ w.grownBy w' none := by
  generalize ht : tokAt n T i = t
  have HT : Hid _ := ht
  clear ht
  go_enter Ybaf.func11, Ybaf.ntmps11
  go_wp2_with fail
  refine (peekAt_any _ B g n c i T (h.later (World.grownBy_alloc _ _ _))).mono ?_
  rw [HT.out]
  rintro e w1 ⟨rfl, hg1⟩
  obtain ⟨hs, c0, c1, c2, c3, c4, f0, f1, f2, f3, f4⟩ := slot5 hg1
  have hg : w.grownBy w1 none := grown_trans (World.grownBy_alloc _ _ _) hg1
  clear hg1
  go_wp2
  refine bodyPost_ret (v := .agg #[.int .i64 t.kind, .string t.text, .string t.file, .int .i64 t.line, .int .i64 t.col]) (by simp [results, Ybaf.results11, go_sem, c0, c1, c2, c3, c4]) rfl ⟨rfl, ?_⟩
  repeat (first | (with_reducible exact hg) | (with_reducible refine grown_set ?_ _ _ (Or.inl (Nat.le_refl _))))

/-- .. and still, behind a store into another block. -/
theorem slot5_set {w1 : World} {b0 : Nat} {a b c d e : Value} (h : b0 < w1.heap.size ∧ w1.cell? ⟨b0, 0, none⟩ = some a ∧ w1.cell? ⟨b0, 1, none⟩ = some b ∧ w1.cell? ⟨b0, 2, none⟩ = some c ∧ w1.cell? ⟨b0, 3, none⟩ = some d ∧ w1.cell? ⟨b0, 4, none⟩ = some e ∧
    w1.frozen? ⟨b0, 0, none⟩ = false ∧ w1.frozen? ⟨b0, 1, none⟩ = false ∧ w1.frozen? ⟨b0, 2, none⟩ = false ∧ w1.frozen? ⟨b0, 3, none⟩ = false ∧ w1.frozen? ⟨b0, 4, none⟩ = false) (B : Nat) (hB : B < b0) (v : Value) :
    b0 < (w1.setCell ⟨B, 1, none⟩ v).heap.size ∧ (w1.setCell ⟨B, 1, none⟩ v).cell? ⟨b0, 0, none⟩ = some a ∧ (w1.setCell ⟨B, 1, none⟩ v).cell? ⟨b0, 1, none⟩ = some b ∧ (w1.setCell ⟨B, 1, none⟩ v).cell? ⟨b0, 2, none⟩ = some c ∧ (w1.setCell ⟨B, 1, none⟩ v).cell? ⟨b0, 3, none⟩ = some d ∧ (w1.setCell ⟨B, 1, none⟩ v).cell? ⟨b0, 4, none⟩ = some e ∧
    (w1.setCell ⟨B, 1, none⟩ v).frozen? ⟨b0, 0, none⟩ = false ∧ (w1.setCell ⟨B, 1, none⟩ v).frozen? ⟨b0, 1, none⟩ = false ∧ (w1.setCell ⟨B, 1, none⟩ v).frozen? ⟨b0, 2, none⟩ = false ∧ (w1.setCell ⟨B, 1, none⟩ v).frozen? ⟨b0, 3, none⟩ = false ∧ (w1.setCell ⟨B, 1, none⟩ v).frozen? ⟨b0, 4, none⟩ = false := by
  obtain ⟨hs, c0, c1, c2, c3, c4, f0, f1, f2, f3, f4⟩ := h
  have nb : ∀ o, (⟨B, 1, none⟩ : Addr) ≠ ⟨b0, o, none⟩ := fun o e => by cases e; omega
  simp only [World.size_setCell, World.cell?_setCell_other w1 _ _ v (nb _), World.frozen?_setCell]
  exact ⟨hs, c0, c1, c2, c3, c4, f0, f1, f2, f3, f4⟩

/-- Five cells at a block, none of them frozen. -/
structure C5 (w : World) (b0 : Nat) (a b c d e : Value) : Prop where
  lt : b0 < w.heap.size
  c0 : w.cell? ⟨b0, 0, none⟩ = some a
  c1 : w.cell? ⟨b0, 1, none⟩ = some b
  c2 : w.cell? ⟨b0, 2, none⟩ = some c
  c3 : w.cell? ⟨b0, 3, none⟩ = some d
  c4 : w.cell? ⟨b0, 4, none⟩ = some e
  fz : ∀ j, w.frozen? ⟨b0, j, none⟩ = false

theorem C5.new (w : World) (a b c d e : Value) (ty : TypeId) : C5 (w.alloc (.cells #[a, b, c, d, e] ty)) w.heap.size a b c d e :=
  ⟨by simp, World.cell?_alloc_at _ _ _ _ rfl, World.cell?_alloc_at _ _ _ _ rfl, World.cell?_alloc_at _ _ _ _ rfl, World.cell?_alloc_at _ _ _ _ rfl, World.cell?_alloc_at _ _ _ _ rfl, fun j => by rw [frozen?_alloc_cells]; simp [World.frozen?]⟩

theorem C5.later {w w1 : World} {b0 : Nat} {a b c d e : Value} {r : Option Nat} (h : C5 w b0 a b c d e) (k : w.grownBy w1 r) (hr : some b0 ≠ r) : C5 w1 b0 a b c d e :=
  ⟨Nat.lt_of_lt_of_le h.lt k.size, k.cell h.c0 hr, k.cell h.c1 hr, k.cell h.c2 hr, k.cell h.c3 hr, k.cell h.c4 hr, fun j => by
    rw [World.frozen?_of_block (w := w) (k.block b0 h.lt hr)]; exact h.fz j⟩

end Go.Proofs.YbulkstgFmt.Tk
