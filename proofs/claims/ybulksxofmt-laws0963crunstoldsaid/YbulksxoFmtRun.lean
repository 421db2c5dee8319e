import Derived.Test.YbulksxoFmtPutTwo
namespace Go.Proofs.YbulksxoFmt.Bx
open Go Go.RowKit

/-- A box at b, o whose row is head hd and N entries of k numbers, in block g. -/
structure Ebx (w : World) (B b o k g c N : Nat) (hd : List Value) (L : List Nat) : Prop where
  e0 : w.cell? ⟨b, o, none⟩ = some (.slice (some ⟨g, 0, none⟩) (hd.length + 4 * L.length) c)
  e3 : w.cell? ⟨b, o + 3, none⟩ = some (.int .u32 (N : Int))
  row : w.ownsRow B 5 1 (.slice (some ⟨g, 0, none⟩) (hd.length + 4 * L.length) c) (hd.length + 4 * L.length) (hd ++ bes L)
  len : L.length = k * N
  bd : ∀ v ∈ L, v < 4294967296

/-- A number of the row, read by Uint32. -/
theorem row_u32 {w : World} {B g n c : Nat} {hd : List Value} {L : List Nat} (h : w.ownsRow B 5 1 (.slice (some ⟨g, 0, none⟩) n c) n (hd ++ bes L)) (hb : ∀ v ∈ L, v < 4294967296) (i x m c' : Nat) (hi : i < L.length) (hx : hd.length + 4 * i = x) (hm : 4 ≤ m) :
    ∀ w', w.grownBy w' none → Calls Ybaf.prog 12 #[.agg #[], .slice (some ⟨g, x, none⟩) m c'] w' fun e w'' => e = .returned (.int .u32 (L.getD i 0 : Nat)) ∧ w.grownBy w'' none := fun w' hw => by
  have hlen := h.1
  rw [List.length_append, bes_len] at hlen
  have h' := h.kept hw (by right; simp [Value.ownBlock])
  refine (u32_any w' g x m c' (L.getD i 0) (by rw [List.getD, List.getElem?_eq_getElem hi]; exact hb _ (List.getElem_mem _)) hm (fun j hj => ?_)).mono fun e w'' ⟨he, hg⟩ => ⟨he, grown_trans hw hg⟩
  rw [h'.cellAt (x + j) (by omega), List.getElem?_append_right (by omega), show x + j - hd.length = 4 * i + j by omega, bes_get L i j hi hj]

end Go.Proofs.YbulksxoFmt.Bx
