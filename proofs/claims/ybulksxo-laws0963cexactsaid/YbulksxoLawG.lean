import Derived.Test.YbulksxoLaw
namespace Go.Proofs.Ybulksxo.Bx
open Go Go.RowKit

set_option maxRecDepth 100000 in
set_option maxHeartbeats 4000000 in
theorem law0_even_add (w : World) (ao : Option Addr) (c at' cl ce sel : Nat) (hsel : sel < 256) (hs2 : sel % 2 = 0) (ha : at' < 4294967296) (hcl : cl < 4294967296) (hce : ce < 4294967296) (hat : at' ≠ 0) :
    Calls Yba.prog 3 #[.slice ao 0 c, .int .u32 (at' : Int), .int .u32 (cl : Int), .int .u32 (ce : Int), .int .u8 (sel : Int)] w fun e w' => e = .returned (.bool true) ∧ Below w.heap.size w w' := by
  have hsb : ((sel : Int) % 2 == 0) = true := by simp; omega
  have hab : ((at' : Int) == 0) = false := by simp; omega
  have hbn := bd_new w (.slice none 0 0) 0 at' cl ce
  have hgA := grown_alloc (grown_refl w none) (.cells (bd0 (.slice none 0 0) 0 at' cl ce) 35)
  have hoA : (w.alloc (.cells (bd0 (.slice none 0 0) 0 at' cl ce) 35)).ownsRow w.heap.size 5 1 (.slice none 0 0) (0 + 12 * 0) ([] ++ bes []) := World.ownsRow_nil _ _ _ _
  have hend := end_add _ w.heap.size w.heap.size 0 0 at' cl ce _ [] [] hbn hoA rfl (by decide) rfl (by omega) (fun v hv => by cases hv) (by have := hgA.size; omega) ha hcl hce hat (fun h => by omega)
  have HEND : Hid _ := hend
  have HBN : Hid _ := hbn
  have HGA : Hid _ := hgA
  clear hend hbn hgA hoA hs2
  simp only [bd0] at HEND HBN HGA
  go_enter Yba.func3, Yba.ntmps3
  go_wp2_with fail
  go_loopw [11, 58] (fun v i wr => v = .slice none 0 0 ∧ i = .int .i64 0 ∧ wr = w) (fun _ _ _ => 0)
  case atStart => exact ⟨rfl, rfl, rfl⟩
  case round =>
    obtain ⟨rfl, rfl, rfl⟩ := hrel
    go_wp2_with fail
    refine Calls.mono HEND.out ?_
    rintro e w5 ⟨rfl, buf', hB5, hO5, hK5⟩
    have hg6 := grown_bk HGA.out hK5 (Nat.le_refl _) (fun j hj => by simp [Value.ownBlock] at hj)
    rw [show 0 + 12 * (0 + 1) = 12 by omega, List.nil_append, List.nil_append] at hO5
    rcases hO5.2 with ⟨_, h0⟩ | ⟨g5, cap5, cur5, rfl, _⟩
    · omega
    have hR5 : Rw w5 g5 12 cap5 [at', cl, ce] := Rw.of hO5 rfl (app_bound (L := []) (fun v hv => by cases hv) ha hcl hce) (by omega)
    obtain ⟨_, _, c20, c21, c22, c23', c27, c28, c29⟩ := hB5
    have c23 : w5.cell? ⟨wr.heap.size, 23, none⟩ = some (.int .u32 1) := by simpa using c23'
    have HR5 : Hid _ := hR5
    have HG6 : Hid _ := hg6
    clear HEND HBN HGA hg6 hR5 hK5 hO5 c23'
    go_wp2_with fail
    go_loopw [18] (fun i wr2 => i = .int .i64 0 ∧ w5.grownBy wr2 none) (fun _ _ => 0)
    case atStart => exact ⟨rfl, grown_refl _ _⟩
    case round =>
      obtain ⟨rfl, hgj⟩ := hrel
      have hRj := HR5.out.later hgj
      have hl3 : [at', cl, ce].length = 3 := rfl
      have t : [at', cl, ce].getD 0 0 = at' ∧ [at', cl, ce].getD 1 0 = cl ∧ [at', cl, ce].getD 2 0 = ce := ⟨rfl, rfl, rfl⟩
      have q20 := hgj.cell c20 (by simp)
      have hc1 := get_any _ g5 12 cap5 0 _ hRj (by omega) 0 rfl
      rw [t.1] at hc1
      have HC1 : Hid _ := hc1
      have HRj : Hid _ := hRj
      have HT : Hid _ := t
      have HGJ : Hid _ := hgj
      clear hc1 hRj t hgj hl3
      go_wp2_with fail
      refine Calls.mono HC1.out ?_
      rintro e w6 ⟨rfl, hg6⟩
      have hl3 : [at', cl, ce].length = 3 := rfl
      have r20 := hg6.cell q20 (by simp)
      have hRj2 := HRj.out.later hg6
      have hc2 := get_any w6 g5 12 cap5 1 _ hRj2 (by omega) 1 rfl
      rw [HT.out.2.1] at hc2
      have HC2 : Hid _ := hc2
      have HRj2 : Hid _ := hRj2
      have HGJ2 : Hid _ := grown_trans HGJ.out hg6
      clear hc2 hRj2 hg6 HC1 HRj HGJ hl3 q20
      go_wp2_with fail
      refine Calls.mono HC2.out ?_
      rintro e w7 ⟨rfl, hg7⟩
      have hl3 : [at', cl, ce].length = 3 := rfl
      have s20 := hg7.cell r20 (by simp)
      have hRj3 := HRj2.out.later hg7
      have hc3 := get_any w7 g5 12 cap5 2 _ hRj3 (by omega) 2 rfl
      rw [HT.out.2.2] at hc3
      have HC3 : Hid _ := hc3
      have HGJ3 : Hid _ := grown_trans HGJ2.out hg7
      clear hc3 hRj3 hg7 HC2 HRj2 HGJ2 hl3 r20
      go_wp2_with fail
      refine Calls.mono HC3.out ?_
      rintro e w8 ⟨rfl, hg8⟩
      have hg9 := grown_trans HG6.out (grown_trans HGJ3.out hg8)
      clear HC3 HGJ3 hg8 HT s20
      go_wp2
      go_ret
      exact ⟨rfl, grown_below hg9 (Nat.le_refl _)⟩

set_option maxRecDepth 100000 in
set_option maxHeartbeats 4000000 in
theorem law0_odd_add (w : World) (ao : Option Addr) (c at' cl ce sel : Nat) (hsel : sel < 256) (hs2 : sel % 2 ≠ 0) (ha : at' < 4294967296) (hcl : cl < 4294967296) (hce : ce < 4294967296) (hat : at' ≠ 0) :
    Calls Yba.prog 3 #[.slice ao 0 c, .int .u32 (at' : Int), .int .u32 (cl : Int), .int .u32 (ce : Int), .int .u8 (sel : Int)] w fun e w' => e = .returned (.bool true) ∧ Below w.heap.size w w' := by
  have hsb : ((sel : Int) % 2 == 0) = false := by simp; omega
  have hab : ((at' : Int) == 0) = false := by simp; omega
  have hbn := bd_new w (.slice none 0 0) 0 at' cl ce
  have hgA := grown_alloc (grown_refl w none) (.cells (bd0 (.slice none 0 0) 0 at' cl ce) 35)
  have hoA : (w.alloc (.cells (bd0 (.slice none 0 0) 0 at' cl ce) 35)).ownsRow w.heap.size 5 1 (.slice none 0 0) (0 + 12 * 0) ([] ++ bes []) := World.ownsRow_nil _ _ _ _
  have hend := end_add _ w.heap.size w.heap.size 0 0 at' cl ce _ [] [] hbn hoA rfl (by decide) rfl (by omega) (fun v hv => by cases hv) (by have := hgA.size; omega) ha hcl hce hat (fun h => by omega)
  have HEND : Hid _ := hend
  have HBN : Hid _ := hbn
  have HGA : Hid _ := hgA
  clear hend hbn hgA hoA hs2
  simp only [bd0] at HEND HBN HGA
  go_enter Yba.func3, Yba.ntmps3
  go_wp2_with fail
  go_loopw [11, 58] (fun v i wr => v = .slice none 0 0 ∧ i = .int .i64 0 ∧ wr = w) (fun _ _ _ => 0)
  case atStart => exact ⟨rfl, rfl, rfl⟩
  case round =>
    obtain ⟨rfl, rfl, rfl⟩ := hrel
    go_wp2_with fail
    refine Calls.mono HEND.out ?_
    rintro e w5 ⟨rfl, buf', hB5, hO5, hK5⟩
    have hg6 := grown_bk HGA.out hK5 (Nat.le_refl _) (fun j hj => by simp [Value.ownBlock] at hj)
    rw [show 0 + 12 * (0 + 1) = 12 by omega, List.nil_append, List.nil_append] at hO5
    rcases hO5.2 with ⟨_, h0⟩ | ⟨g5, cap5, cur5, rfl, _⟩
    · omega
    have hR5 : Rw w5 g5 12 cap5 [at', cl, ce] := Rw.of hO5 rfl (app_bound (L := []) (fun v hv => by cases hv) ha hcl hce) (by omega)
    obtain ⟨_, _, c20, c21, c22, c23', c27, c28, c29⟩ := hB5
    have c23 : w5.cell? ⟨wr.heap.size, 23, none⟩ = some (.int .u32 1) := by simpa using c23'
    have HR5 : Hid _ := hR5
    have HG6 : Hid _ := hg6
    clear HEND HBN HGA hg6 hR5 hK5 hO5 c23'
    go_wp2_with fail
    go_loopw [18] (fun i wr2 => i = .int .i64 0 ∧ w5.grownBy wr2 none) (fun _ _ => 0)
    case atStart => exact ⟨rfl, grown_refl _ _⟩
    case round =>
      obtain ⟨rfl, hgj⟩ := hrel
      have hRj := HR5.out.later hgj
      have hl3 : [at', cl, ce].length = 3 := rfl
      have t : [at', cl, ce].getD 0 0 = at' ∧ [at', cl, ce].getD 1 0 = cl ∧ [at', cl, ce].getD 2 0 = ce := ⟨rfl, rfl, rfl⟩
      have q20 := hgj.cell c20 (by simp)
      have hc1 := get_any _ g5 12 cap5 0 _ hRj (by omega) 0 rfl
      rw [t.1] at hc1
      have HC1 : Hid _ := hc1
      have HRj : Hid _ := hRj
      have HT : Hid _ := t
      have HGJ : Hid _ := hgj
      clear hc1 hRj t hgj hl3
      go_wp2_with fail
      refine Calls.mono HC1.out ?_
      rintro e w6 ⟨rfl, hg6⟩
      have hl3 : [at', cl, ce].length = 3 := rfl
      have r20 := hg6.cell q20 (by simp)
      have hRj2 := HRj.out.later hg6
      have hc2 := get_any w6 g5 12 cap5 1 _ hRj2 (by omega) 1 rfl
      rw [HT.out.2.1] at hc2
      have HC2 : Hid _ := hc2
      have HRj2 : Hid _ := hRj2
      have HGJ2 : Hid _ := grown_trans HGJ.out hg6
      clear hc2 hRj2 hg6 HC1 HRj HGJ hl3 q20
      go_wp2_with fail
      refine Calls.mono HC2.out ?_
      rintro e w7 ⟨rfl, hg7⟩
      have hl3 : [at', cl, ce].length = 3 := rfl
      have s20 := hg7.cell r20 (by simp)
      have hRj3 := HRj2.out.later hg7
      have hc3 := get_any w7 g5 12 cap5 2 _ hRj3 (by omega) 2 rfl
      rw [HT.out.2.2] at hc3
      have HC3 : Hid _ := hc3
      have HGJ3 : Hid _ := grown_trans HGJ2.out hg7
      clear hc3 hRj3 hg7 HC2 HRj2 HGJ2 hl3 r20
      go_wp2_with fail
      refine Calls.mono HC3.out ?_
      rintro e w8 ⟨rfl, hg8⟩
      have hg9 := grown_trans HG6.out (grown_trans HGJ3.out hg8)
      clear HC3 HGJ3 hg8 HT s20
      go_wp2
      go_ret
      exact ⟨rfl, grown_below hg9 (Nat.le_refl _)⟩

end Go.Proofs.Ybulksxo.Bx
