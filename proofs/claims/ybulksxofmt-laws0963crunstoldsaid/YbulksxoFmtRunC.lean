import Derived.Test.YbulksxoFmtRunB
namespace Go.Proofs.YbulksxoFmt.Bx
open Go Go.RowKit

/-- 'add' at a box, behind whatever grew. -/
theorem add_box (w w' : World) (B b o k g c N s : Nat) (hd : List Value) (L vs : List Nat) (h : Ebx w B b o k g c N hd L) (hk : Kt w b) (hf : ∀ j, w.frozen? ⟨b, j, none⟩ = false) (hB : B ≤ w.heap.size) (hN : N ≤ 100000) (hh : hd.length ≤ 100) (hk0 : 0 < k) (hk4 : k ≤ 4) (hvs : vs.length = k) (hv : ∀ v ∈ vs, v < 4294967296) (hg : w.grownBy w' none) (hs : w.heap.size ≤ s) (hc : ∀ j, j < vs.length → w'.cell? ⟨s, j, none⟩ = some (.int .u32 (vs.getD j 0 : Nat))) :
    Calls Ybaf.prog 10 #[.pointer (some ⟨b, o, none⟩), .slice (some ⟨s, 0, none⟩) vs.length vs.length] w' fun e w'' => e = .returned (.tuple #[]) ∧ ∃ g' c', Ebx w'' B b o k g' c' (N + 1) hd (L ++ vs) ∧ Bk w w'' b o (some g) ∧ (g' = g ∨ w.heap.size ≤ g') := by
  have hlt := hk.lt
  have hl := h.len
  have hgl : g < w.heap.size := by
    have := (h.row.lt g rfl).2
    exact this
  have hkl : L.length ≤ 400000 := by rw [hl]; exact Nat.le_trans (Nat.mul_le_mul hk4 hN) (by omega)
  have hfz : ∀ j, w'.frozen? ⟨b, j, none⟩ = false := fun j => (World.frozen?_of_block (hg.block b hlt (by simp))).trans (hf j)
  refine (add_any w' B b o s (hd.length + 4*L.length) N _ _ vs hv (by omega) (by omega) (by omega) (Nat.le_trans hB hg.size) (hk.of (hg.block b hlt (by simp))) (by omega) (by simp [Value.ownBlock]; omega) hc hfz (h.row.kept hg (by right; simp [Value.ownBlock])) (hg.cell h.e0 (by simp)) (hg.cell h.e3 (by simp))).mono ?_
  rintro e w'' ⟨rfl, buf', q0, q3, ho, hK, hn⟩
  rw [List.append_assoc, ← bes_append] at ho
  have el : hd.length + 4 * L.length + 4 * vs.length = hd.length + 4 * (L ++ vs).length := by rw [List.length_append]; omega
  rw [el] at ho
  rcases ho.2 with ⟨rfl, h1⟩ | ⟨g', cap, cur, rfl, _⟩
  · rw [List.length_append] at h1; omega
  · refine ⟨rfl, g', cap, ⟨q0, q3, ho, by rw [List.length_append, hl, hvs, Nat.mul_add, Nat.mul_one], fun v hm => ?_⟩, ?_, ?_⟩
    · rcases List.mem_append.1 hm with h2 | h2
      · exact h.bd v h2
      · exact hv v h2
    · exact ⟨hK.os.trans hg.os, hK.tape.trans hg.tape, hK.output.trans hg.output, Nat.le_trans hg.size hK.size, fun j hj h2 h3 => (hK.block j (Nat.lt_of_lt_of_le hj hg.size) h2 h3).trans (hg.block j hj (by simp)), fun p v h2 h3 hc => hK.cells p v h2 h3 (hg.cell hc (by simp)), fun hf => hK.fz fun j => (World.frozen?_of_block (hg.block b hlt (by simp))).trans (hf j), fun hkt => hK.kt (hkt.of (hg.block b hlt (by simp)))⟩
    · rcases hn g' rfl with h2 | h2
      · left; simp [Value.ownBlock] at h2; omega
      · right; exact Nat.le_trans hg.size h2

end Go.Proofs.YbulksxoFmt.Bx
