import Derived.Test.YbulksxoFmtPut
import Derived.Shelf.Bin.BEPutUint32
import Derived.Shelf.Lay
import Derived.Ground.MnProg
namespace Go.Proofs
open Go.Shelf
shelf_lay LaysBin.n40 Mn 40 at Ybaf as Ybaf.lays40
end Go.Proofs
namespace Go.Proofs.YbulksxoFmt.Bx
open Go Go.RowKit

theorem put_raw (g o n c v : Nat) (hv : v < 4294967296) (x0 x1 x2 x3 : Value) (w : World) (hn : 4 ≤ n)
    (c0 : w.cell? ⟨g, o, none⟩ = some x0) (c1 : w.cell? ⟨g, o + 1, none⟩ = some x1) (c2 : w.cell? ⟨g, o + 2, none⟩ = some x2) (c3 : w.cell? ⟨g, o + 3, none⟩ = some x3)
    (f0 : w.frozen? ⟨g, o, none⟩ = false) (f1 : w.frozen? ⟨g, o + 1, none⟩ = false) (f2 : w.frozen? ⟨g, o + 2, none⟩ = false) (f3 : w.frozen? ⟨g, o + 3, none⟩ = false) :
    Calls Ybaf.prog 15 #[.agg #[], .slice (some ⟨g, o, none⟩) n c, .int .u32 (v : Int)] w fun e w' => e = .returned (.tuple #[]) ∧ w' = (w.alloc (.cells #[] 49)).setCells g o (Go.Lib.byteCells (Go.Lib.beBytes 4 v)) :=
  Any.binary_BE_PutUint32 Ybaf.lays40 g o n c v hv x0 x1 x2 x3 w hn c0 c1 c2 c3 f0 f1 f2 f3

theorem set_four (w : World) (g x v : Nat) (hv : v < 4294967296) : w.setCells g x (Go.Lib.byteCells (Go.Lib.beBytes 4 v)) = (((w.setCell ⟨g, x, none⟩ (.int .u8 ((v : Int) / 16777216))).setCell ⟨g, x + 1, none⟩ (.int .u8 ((v : Int) / 65536 % 256))).setCell ⟨g, x + 2, none⟩ (.int .u8 ((v : Int) / 256 % 256))).setCell ⟨g, x + 3, none⟩ (.int .u8 ((v : Int) % 256)) := by
  have hb := be_eq v hv
  unfold be at hb
  rw [hb]
  rfl

/-- binary.BigEndian.PutUint32 into a row. -/
theorem put_any (w : World) (B g n c k v : Nat) (hd : List Value) (L : List Nat) (hv : v < 4294967296) (ho : w.ownsRow B 5 1 (.slice (some ⟨g, 0, none⟩) n c) n (hd ++ bes L)) (hk : k < L.length) (x : Nat) (hx : hd.length + 4 * k = x) (m c' : Nat) (hm : 4 ≤ m) :
    Calls Ybaf.prog 15 #[.agg #[], .slice (some ⟨g, x, none⟩) m c', .int .u32 (v : Int)] w fun e w' => e = .returned (.tuple #[]) ∧ w'.ownsRow B 5 1 (.slice (some ⟨g, 0, none⟩) n c) n (hd ++ bes (L.set k v)) ∧ w.grownBy w' (some g) := by
  have hlen := ho.1
  rw [List.length_append, bes_len] at hlen
  have hcell : ∀ j, j < 4 → ∃ u, w.cell? ⟨g, x + j, none⟩ = some u := fun j hj => ⟨_, (ho.cellAt (x + j) (by omega)).trans (List.getElem?_eq_getElem (by rw [List.length_append, bes_len]; omega))⟩
  have hfz : ∀ j, w.frozen? ⟨g, j, none⟩ = false := fun j => by
    rcases ho.2 with ⟨h0, _⟩ | ⟨g', cap, cur, he, hb, hg, _⟩
    · cases h0
    · cases he
      simp [World.frozen?, hg]
  obtain ⟨u0, c0⟩ := hcell 0 (by decide)
  obtain ⟨u1, c1⟩ := hcell 1 (by decide)
  obtain ⟨u2, c2⟩ := hcell 2 (by decide)
  obtain ⟨u3, c3⟩ := hcell 3 (by decide)
  refine (put_raw g x m c' v hv u0 u1 u2 u3 w hm c0 c1 c2 c3 (hfz _) (hfz _) (hfz _) (hfz _)).mono ?_
  rintro e w' ⟨rfl, rfl⟩
  rw [set_four _ _ _ _ hv]
  refine ⟨rfl, ?_, ?_⟩
  · have h4 := row_set (row_set (row_set (row_set (ho.alloc (.cells #[] 49)) x (.int .u8 ((v : Int) / 16777216))) (x + 1) (.int .u8 ((v : Int) / 65536 % 256))) (x + 2) (.int .u8 ((v : Int) / 256 % 256))) (x + 3) (.int .u8 ((v : Int) % 256))
    have hs := bes_split L k hk
    have hbk : ∃ a b c d, be (L.getD k 0) = [a, b, c, d] := by
      have := be_len (L.getD k 0)
      match be (L.getD k 0), this with
      | [a, b, c, d], _ => exact ⟨a, b, c, d, rfl⟩
    obtain ⟨a, b, c2', d, hq⟩ := hbk
    rw [hq] at hs
    have e : hd ++ bes L = (hd ++ bes (L.take k)) ++ [a, b, c2', d] ++ bes (L.drop (k + 1)) := by rw [hs]; simp
    rw [e, set4 _ _ _ _ _ _ _ _ _ _ x (by rw [List.length_append, bes_len, List.length_take]; omega)] at h4
    rw [bes_set L k v hk, be_eq v hv]
    rw [show hd ++ (bes (List.take k L) ++ [Value.int .u8 ((v : Int) / 16777216), .int .u8 ((v : Int) / 65536 % 256), .int .u8 ((v : Int) / 256 % 256), .int .u8 ((v : Int) % 256)] ++ bes (List.drop (k + 1) L)) = hd ++ bes (List.take k L) ++ [Value.int .u8 ((v : Int) / 16777216), .int .u8 ((v : Int) / 65536 % 256), .int .u8 ((v : Int) / 256 % 256), .int .u8 ((v : Int) % 256)] ++ bes (List.drop (k + 1) L) by simp only [List.append_assoc]]
    exact h4
  · have g0 : w.grownBy (w.alloc (.cells #[] 49)) (some g) := grown_alloc (grown_refl w (some g)) (.cells #[] 49)
    have g1 := grown_set g0 ⟨g, x, none⟩ (.int .u8 ((v : Int) / 16777216)) (Or.inr rfl)
    have g2 := grown_set g1 ⟨g, x + 1, none⟩ (.int .u8 ((v : Int) / 65536 % 256)) (Or.inr rfl)
    have g3 := grown_set g2 ⟨g, x + 2, none⟩ (.int .u8 ((v : Int) / 256 % 256)) (Or.inr rfl)
    exact grown_set g3 ⟨g, x + 3, none⟩ (.int .u8 ((v : Int) % 256)) (Or.inr rfl)

end Go.Proofs.YbulksxoFmt.Bx
