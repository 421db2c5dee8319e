import Derived.Test.YbulkstgFmtSet
namespace Go.Proofs.YbulkstgFmt.Tk
open Go Go.RowKit

/-- A set of one union of one element, a plain value. All of it at block lo or beyond. -/
structure SA (w : World) (lo S u cu v cv E : Nat) (file : ByteArray) (line col : Int) (val : Value) : Prop where
  l1 : lo ≤ S
  l2 : lo ≤ u
  l3 : lo ≤ v
  l4 : lo ≤ E
  c1 : w.cell? ⟨S, 0, none⟩ = some (.slice (some ⟨u, 0, none⟩) 1 cu)
  c2 : w.cell? ⟨u, 0, none⟩ = some (.slice (some ⟨v, 0, none⟩) 1 cv)
  c3 : w.cell? ⟨v, 0, none⟩ = some (.pointer (some ⟨E, 0, none⟩))
  el : El w E 0 file line col val (.slice none 0 0) (.slice none 0 0) false false (.pointer none) (.pointer none)

theorem SA.later {w w1 : World} {lo S u cu v cv E : Nat} {file : ByteArray} {line col : Int} {val : Value} {r : Option Nat} (h : SA w lo S u cu v cv E file line col val) (k : w.grownBy w1 r) (hr : ∀ b, r = some b → b < lo) : SA w1 lo S u cu v cv E file line col val := by
  have ne : ∀ x, lo ≤ x → some x ≠ r := fun x hx e => by have := hr x e.symm; omega
  exact ⟨h.l1, h.l2, h.l3, h.l4, k.cell h.c1 (ne _ h.l1), k.cell h.c2 (ne _ h.l2), k.cell h.c3 (ne _ h.l3), h.el.later k (ne _ h.l4)⟩

theorem SA.low {w : World} {lo lo' S u cu v cv E : Nat} {file : ByteArray} {line col : Int} {val : Value} (h : SA w lo S u cu v cv E file line col val) (hl : lo' ≤ lo) : SA w lo' S u cu v cv E file line col val :=
  ⟨Nat.le_trans hl h.l1, Nat.le_trans hl h.l2, Nat.le_trans hl h.l3, Nat.le_trans hl h.l4, h.c1, h.c2, h.c3, h.el⟩

/-- The specs at block Q. -/
structure QA (w : World) (Q S : Nat) : Prop where
  lt : Q < w.heap.size
  q0 : w.cell? ⟨Q, 0, none⟩ = some (.pointer (some ⟨S, 0, none⟩))
  q1 : w.cell? ⟨Q, 1, none⟩ = some (.bool false)
  q2 : w.cell? ⟨Q, 2, none⟩ = some (.pointer none)
theorem QA.later {w w1 : World} {Q S : Nat} {r : Option Nat} (h : QA w Q S) (k : w.grownBy w1 r) (hr : some Q ≠ r) : QA w1 Q S :=
  ⟨Nat.lt_of_lt_of_le h.lt k.size, k.cell h.q0 hr, k.cell h.q1 hr, k.cell h.q2 hr⟩

set_option maxHeartbeats 1000000 in
theorem specs_one (w : World) (B g n c i i' : Nat) (T : Nat → Tok) (h : Ps w B g n c T i) (he : ElemOk B g n c T i i') (hn : NoSet (tokAt n T i')) (hk : (tokAt n T i).kind ≠ 5) :
    Calls Ybaf.prog 15 #[.pointer (some ⟨B, 0, none⟩)] w fun e w' => ∃ Q S u cu v cv E, e = .returned (.tuple #[.pointer (some ⟨Q, 0, none⟩), .nilIface]) ∧ w.heap.size ≤ Q ∧ QA w' Q S ∧
      SA w' (w.heap.size + 1) S u cu v cv E (tokAt n T i).file (tokAt n T i).line (tokAt n T i).col (.slice (some ⟨g, i * 5, none⟩) (i' - i) (c - i)) ∧ w.grownBy w' (some B) ∧ Ps w' B g n c T i' := by
  have hk5 : ((tokAt n T i).kind == 5) = false := by simpa using hk
  have hf := field0 (tokAt n T i)
  have hBw := h.hB
  have hgw := h.hg
  have hset := fun w h => set_one w B g n c i i' T h he hn
  have HS : Hid _ := hset
  clear hset hk
  generalize ht : tokAt n T i = t at *
  have HT : Hid _ := ht
  clear ht
  go_enter Ybaf.func15, Ybaf.ntmps15
  go_wp2_with fail
  refine (peek_any _ B g n c i T (h.later (World.grownBy_alloc _ _ _))).mono ?_
  rw [HT.out]
  rintro e w1 ⟨rfl, hg1⟩
  have hs0 : w.heap.size < (w.alloc (.cells #[.pointer none, .bool false, .pointer none] 62)).heap.size := by simp
  have hP1 := (h.later (World.grownBy_alloc _ _ _)).later hg1
  have lQ : w.heap.size < w1.heap.size := Nat.lt_of_lt_of_le hs0 hg1.size
  have cq : ∀ j x, #[Value.pointer none, .bool false, .pointer none][j]? = some x → w1.cell? ⟨w.heap.size, j, none⟩ = some x := fun j x hx => hg1.cell ((World.cell?_alloc_at _ _ _ _ rfl).trans hx) (by simp)
  have fq : ∀ j, w1.frozen? ⟨w.heap.size, j, none⟩ = false := fun j => by
    rw [World.frozen?_of_block (w := w.alloc (.cells #[.pointer none, .bool false, .pointer none] 62)) (hg1.block _ hs0 (by simp)), frozen?_alloc_cells]; simp [World.frozen?]
  have hgA := grown_trans (World.grownBy_alloc w _ none) hg1
  have HC : Hid _ := cq
  have HF : Hid _ := fq
  clear hg1 hs0 h cq fq
  go_wp2_with fail
  refine (HS.out _ hP1).mono ?_
  rintro e w2 ⟨S, u, cu, v, cv, E, rfl, l1, c1, l2, c2, l3, c3, l4, hE, hg2, hP2⟩
  have hA : SA w2 (w.heap.size + 1) S u cu v cv E t.file t.line t.col (.slice (some ⟨g, i * 5, none⟩) (i' - i) (c - i)) := ⟨by omega, by omega, by omega, by omega, c1, c2, c3, hE⟩
  have ne : some w.heap.size ≠ some B := by intro e; simp at e; omega
  have q0 := hg2.cell (HC.out 0 _ rfl) ne
  have q1 := hg2.cell (HC.out 1 _ rfl) ne
  have q2 := hg2.cell (HC.out 2 _ rfl) ne
  have f0 : w2.frozen? ⟨w.heap.size, 0, none⟩ = false := by rw [World.frozen?_of_block (w := w1) (hg2.block _ lQ ne)]; exact HF.out 0
  have lQ2 := Nat.lt_of_lt_of_le lQ hg2.size
  have hgB := grown_trans (grown_some hgA (some B)) hg2
  have hst : w2.grownBy (w2.setCell ⟨w.heap.size, 0, none⟩ (.pointer (some ⟨S, 0, none⟩))) (some w.heap.size) := grown_set (grown_refl _ _) _ _ (Or.inr rfl)
  have hQ : QA (w2.setCell ⟨w.heap.size, 0, none⟩ (.pointer (some ⟨S, 0, none⟩))) w.heap.size S := ⟨by rw [World.size_setCell]; exact lQ2, World.cell?_setCell_same _ _ _ q0, (World.cell?_setCell_other _ _ _ _ (by simp)).trans q1, (World.cell?_setCell_other _ _ _ _ (by simp)).trans q2⟩
  have hA3 := hA.later hst (fun b hb => by simp at hb; omega)
  have hP3 := hP2.other ⟨w.heap.size, 0, none⟩ (.pointer (some ⟨S, 0, none⟩)) (Nat.ne_of_gt hBw) (Nat.ne_of_gt hgw)
  have hgC : w.grownBy (w2.setCell ⟨w.heap.size, 0, none⟩ (.pointer (some ⟨S, 0, none⟩))) (some B) := grown_set hgB _ _ (Or.inl (Nat.le_refl _))
  clear HC HF c1 c2 c3 hE hA hg2 hst hP2 hgB hgA l1 l2 l3 l4 q1 q2 HS
  go_wp2_with fail
  generalize w2.setCell ⟨w.heap.size, 0, none⟩ (.pointer (some ⟨S, 0, none⟩)) = w3 at *
  refine (accept_f _ B g n c i' T _ hP3 hn.s5).mono ?_
  rintro e w4 ⟨rfl, hg4⟩
  have hQ4 := hQ.later hg4 (by simp)
  have r1 := hQ4.q1
  go_wp2
  go_ret2
  exact ⟨w.heap.size, S, u, cu, v, cv, E, rfl, Nat.le_refl _, hQ4, hA3.later hg4 (fun b hb => by cases hb), grown_trans hgC (grown_some hg4 _), hP3.later hg4⟩

end Go.Proofs.YbulkstgFmt.Tk
