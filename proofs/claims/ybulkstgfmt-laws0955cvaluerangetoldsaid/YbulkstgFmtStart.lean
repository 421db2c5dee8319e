import Derived.Test.YbulkstgFmtGood
import Derived.Test.YbulkstgFmtDigits
namespace Go.Proofs.YbulkstgFmt.Tk
open Go Go.RowKit

theorem info28 : (Ybaf.prog.info? 28).map (fun i => (i.zero, i.size, i.bytes)) = some (some (.agg #[.int .i64 0, .string ⟨#[]⟩, .string ⟨#[]⟩, .int .i64 0, .int .i64 0]), 5, 56) := by kernel_rfl

def tcell (t : Tok) : List Value := [.int .i64 t.kind, .string t.text, .string t.file, .int .i64 t.line, .int .i64 t.col]
def tc (T : Nat → Tok) : Nat → List Value
  | 0 => []
  | k + 1 => tc T k ++ tcell (T k)
theorem tc_len (T : Nat → Tok) (k : Nat) : (tc T k).length = k * 5 := by
  induction k with
  | zero => rfl
  | succ k ih => simp [tc, tcell, ih]; omega
theorem tc_get (T : Nat → Tok) (j r : Nat) (hr : r < 5) : ∀ k, j < k → (tc T k)[j * 5 + r]? = (tcell (T j))[r]? := by
  intro k
  induction k with
  | zero => intro h; omega
  | succ k ih =>
    intro h
    by_cases hj : j < k
    · rw [tc, List.getElem?_append_left (by rw [tc_len]; omega)]
      exact ih hj
    · obtain rfl : j = k := by omega
      rw [tc, List.getElem?_append_right (by rw [tc_len]; omega), tc_len]
      congr 1
      omega

/-- The tokens that lie in a row of the call's own. -/
theorem Tx.ofRow {w : World} {base g n c : Nat} {T : Nat → Tok} (h : w.ownsRow base 28 5 (.slice (some ⟨g, 0, none⟩) n c) n (tc T n)) : Tx w g n T := by
  have k : ∀ j r, j < n → r < 5 → w.cell? ⟨g, j * 5 + r, none⟩ = (tcell (T j))[r]? := fun j r hj hr => by
    rw [h.cellAt (j * 5 + r) (by omega), tc_get T j r hr n hj]
  exact ⟨(h.lt g rfl).2, fun j hj => k j 0 hj (by decide), fun j hj => k j 1 hj (by decide), fun j hj => k j 2 hj (by decide), fun j hj => k j 3 hj (by decide), fun j hj => k j 4 hj (by decide)⟩

/-- A parser that has just been made over such tokens. -/
theorem Ps.ofTx {w : World} {g n c : Nat} {T : Nat → Tok} (h : Tx w g n T) (hnc : n ≤ c) (hbd : n ≤ 5000) :
    Ps (w.alloc (.cells #[.slice (some ⟨g, 0, none⟩) n c, .int .i64 0, .pointer none] 33)) w.heap.size g n c T 0 := by
  have k := World.grownBy_alloc w (.cells #[.slice (some ⟨g, 0, none⟩) n c, .int .i64 0, .pointer none] 33) none
  have hx := h.later k (by simp)
  have hg := h.hg
  exact ⟨by simp, hx.hg, by omega, Nat.zero_le _, hnc, hbd, World.cell?_alloc_at _ _ _ _ rfl, World.cell?_alloc_at _ _ _ _ rfl, World.cell?_alloc_at _ _ _ _ rfl, by rw [frozen?_alloc_cells]; simp [World.frozen?], hx.t0, hx.t1, hx.t2, hx.t3, hx.t4⟩
theorem Ps.tx {w : World} {B g n c : Nat} {T : Nat → Tok} {i : Nat} (h : Ps w B g n c T i) : Tx w g n T := ⟨h.hg, h.t0, h.t1, h.t2, h.t3, h.t4⟩

def TT (xs : List Int) (f : ByteArray) (j : Nat) : Tok := mkTok (xs.getD j 0) j f

end Go.Proofs.YbulkstgFmt.Tk
