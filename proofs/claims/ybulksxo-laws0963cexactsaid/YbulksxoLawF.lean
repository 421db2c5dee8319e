import Derived.Test.YbulksxoLaw
namespace Go.Proofs.Ybulksxo.Bx
open Go Go.RowKit

set_option maxRecDepth 100000 in
set_option maxHeartbeats 4000000 in
theorem law0_even_at0 (w : World) (ao : Option Addr) (c at' cl ce sel : Nat) (hsel : sel < 256) (hs2 : sel % 2 = 0) (hat : at' = 0) :
    Calls Yba.prog 3 #[.slice ao 0 c, .int .u32 (at' : Int), .int .u32 (cl : Int), .int .u32 (ce : Int), .int .u8 (sel : Int)] w fun e w' => e = .returned (.bool true) ∧ Below w.heap.size w w' := by
  have hsb : ((sel : Int) % 2 == 0) = true := by simp; omega
  have hab : ((at' : Int) == 0) = true := by simp; omega
  have hbn := bd_new w (.slice none 0 0) 0 at' cl ce
  have hgA := grown_alloc (grown_refl w none) (.cells (bd0 (.slice none 0 0) 0 at' cl ce) 35)
  have hoA : (w.alloc (.cells (bd0 (.slice none 0 0) 0 at' cl ce) 35)).ownsRow w.heap.size 5 1 (.slice none 0 0) (0 + 12 * 0) ([] ++ bes []) := World.ownsRow_nil _ _ _ _
  have hend := end_skip _ w.heap.size w.heap.size 0 0 at' cl ce _ [] [] hbn hoA rfl (by decide) rfl (by omega) (fun v hv => by cases hv) (Or.inl hat)
  have HEND : Hid _ := hend
  have HBN : Hid _ := hbn
  have HGA : Hid _ := hgA
  clear hend hbn hgA hoA hs2 hat
  simp only [bd0] at HEND HBN HGA
  go_enter Yba.func3, Yba.ntmps3
  go_wp2_with fail
  go_loopw [11, 58] (fun v i wr => v = .slice none 0 0 ∧ i = .int .i64 0 ∧ wr = w) (fun _ _ _ => 0)
  case atStart => exact ⟨rfl, rfl, rfl⟩
  case round =>
    obtain ⟨rfl, rfl, rfl⟩ := hrel
    go_wp2_with fail
    refine Calls.mono HEND.out ?_
    rintro e w5 ⟨rfl, hg5⟩
    have hB5 := HBN.out.later hg5 (by simp)
    have hg6 := grown_trans HGA.out hg5
    obtain ⟨_, _, c20, c21, c22, c23', c27, c28, c29⟩ := hB5
    have c23 : w5.cell? ⟨wr.heap.size, 23, none⟩ = some (.int .u32 0) := by simpa using c23'
    have HG6 : Hid _ := hg6
    clear HEND HBN HGA hg5 hg6 c23'
    go_wp2_with fail
    go_loopw [18] (fun i wr2 => i = .int .i64 0 ∧ w5.grownBy wr2 none) (fun _ _ => 0)
    case atStart => exact ⟨rfl, grown_refl _ _⟩
    case round =>
      obtain ⟨rfl, hgj⟩ := hrel
      have HG7 : Hid _ := grown_trans HG6.out hgj
      clear hgj
      go_wp2
      go_ret
      exact ⟨rfl, grown_below HG7.out (Nat.le_refl _)⟩

set_option maxRecDepth 100000 in
set_option maxHeartbeats 4000000 in
theorem law0_odd_at0 (w : World) (ao : Option Addr) (c at' cl ce sel : Nat) (hsel : sel < 256) (hs2 : sel % 2 ≠ 0) (hat : at' = 0) :
    Calls Yba.prog 3 #[.slice ao 0 c, .int .u32 (at' : Int), .int .u32 (cl : Int), .int .u32 (ce : Int), .int .u8 (sel : Int)] w fun e w' => e = .returned (.bool true) ∧ Below w.heap.size w w' := by
  have hsb : ((sel : Int) % 2 == 0) = false := by simp; omega
  have hab : ((at' : Int) == 0) = true := by simp; omega
  have hbn := bd_new w (.slice none 0 0) 0 at' cl ce
  have hgA := grown_alloc (grown_refl w none) (.cells (bd0 (.slice none 0 0) 0 at' cl ce) 35)
  have hoA : (w.alloc (.cells (bd0 (.slice none 0 0) 0 at' cl ce) 35)).ownsRow w.heap.size 5 1 (.slice none 0 0) (0 + 12 * 0) ([] ++ bes []) := World.ownsRow_nil _ _ _ _
  have hend := end_skip _ w.heap.size w.heap.size 0 0 at' cl ce _ [] [] hbn hoA rfl (by decide) rfl (by omega) (fun v hv => by cases hv) (Or.inl hat)
  have HEND : Hid _ := hend
  have HBN : Hid _ := hbn
  have HGA : Hid _ := hgA
  clear hend hbn hgA hoA hs2 hat
  simp only [bd0] at HEND HBN HGA
  go_enter Yba.func3, Yba.ntmps3
  go_wp2_with fail
  go_loopw [11, 58] (fun v i wr => v = .slice none 0 0 ∧ i = .int .i64 0 ∧ wr = w) (fun _ _ _ => 0)
  case atStart => exact ⟨rfl, rfl, rfl⟩
  case round =>
    obtain ⟨rfl, rfl, rfl⟩ := hrel
    go_wp2_with fail
    refine Calls.mono HEND.out ?_
    rintro e w5 ⟨rfl, hg5⟩
    have hB5 := HBN.out.later hg5 (by simp)
    have hg6 := grown_trans HGA.out hg5
    obtain ⟨_, _, c20, c21, c22, c23', c27, c28, c29⟩ := hB5
    have c23 : w5.cell? ⟨wr.heap.size, 23, none⟩ = some (.int .u32 0) := by simpa using c23'
    have HG6 : Hid _ := hg6
    clear HEND HBN HGA hg5 hg6 c23'
    go_wp2_with fail
    go_loopw [18] (fun i wr2 => i = .int .i64 0 ∧ w5.grownBy wr2 none) (fun _ _ => 0)
    case atStart => exact ⟨rfl, grown_refl _ _⟩
    case round =>
      obtain ⟨rfl, hgj⟩ := hrel
      have HG7 : Hid _ := grown_trans HG6.out hgj
      clear hgj
      go_wp2
      go_ret
      exact ⟨rfl, grown_below HG7.out (Nat.le_refl _)⟩

end Go.Proofs.Ybulksxo.Bx
