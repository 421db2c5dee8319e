import Derived.Test.YbulksxoFmtEndD
namespace Go.Proofs.YbulksxoFmt.Bx
open Go Go.RowKit

/-- A store into the row itself. -/
theorem row_set {w : World} {B g n c : Nat} {xs : List Value} (h : w.ownsRow B 5 1 (.slice (some ⟨g, 0, none⟩) n c) n xs) (j : Nat) (u : Value) : (w.setCell ⟨g, j, none⟩ u).ownsRow B 5 1 (.slice (some ⟨g, 0, none⟩) n c) n (xs.set j u) := by
  refine ⟨by rw [List.length_set]; exact h.1, ?_⟩
  rcases h.2 with ⟨h0, _⟩ | ⟨g', cap, cur, he, hb, hg, hc, hm, hs, ht⟩
  · cases h0
  · cases he
    refine Or.inr ⟨g, c, cur.setIfInBounds j u, rfl, hb, ?_, hc, hm, by simpa using hs, ?_⟩
    · simp only [World.setCell, Array.getElem?_modify, if_true, hg, Option.map_some]
      rfl
    · rw [Array.toList_setIfInBounds, List.take_set, ht]

theorem set4 (pre suf : List Value) (a b c d a' b' c' d' : Value) (x : Nat) (hx : pre.length = x) : ((((pre ++ [a, b, c, d] ++ suf).set x a').set (x + 1) b').set (x + 2) c').set (x + 3) d' = pre ++ [a', b', c', d'] ++ suf := by
  subst hx
  simp

theorem bes_split (L : List Nat) (k : Nat) (hk : k < L.length) : bes L = bes (L.take k) ++ be (L.getD k 0) ++ bes (L.drop (k + 1)) := by
  have e : L = L.take k ++ (L.getD k 0 :: L.drop (k + 1)) := by
    rw [List.getD, List.getElem?_eq_getElem hk, Option.getD_some, List.getElem_cons_drop, List.take_append_drop]
  conv => lhs; rw [e]
  rw [bes_append, List.append_assoc]
  congr 1

theorem bes_set (L : List Nat) (k v : Nat) (hk : k < L.length) : bes (L.set k v) = bes (L.take k) ++ be v ++ bes (L.drop (k + 1)) := by
  have h := bes_split (L.set k v) k (by simpa using hk)
  rw [h]
  congr 1
  · congr 1
    · rw [List.take_set_of_le (Nat.le_refl k)]
    · simp [List.getD, hk]
  · rw [List.drop_set_of_lt (by omega)]

end Go.Proofs.YbulksxoFmt.Bx
