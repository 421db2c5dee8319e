import Derived.Test.YbulksxoLaw
namespace Go.Proofs.Ybulksxo.Bx
open Go Go.RowKit

set_option maxRecDepth 100000 in
set_option maxHeartbeats 4000000 in
theorem law_even_at0 (w : World) (p q n c at' cl ce sel : Nat) (X Y Z : Nat → Nat) (hn0 : 0 < n) (hn1 : n ≤ 1024) (hE : En w p q n X Y Z) (hsel : sel < 256) (hs2 : sel % 2 = 0) (hat : at' = 0) :
    Calls Yba.prog 3 #[.slice (some ⟨p, q, none⟩) n c, .int .u32 (at' : Int), .int .u32 (cl : Int), .int .u32 (ce : Int), .int .u8 (sel : Int)] w fun e w' => e = .returned (.bool true) ∧ Below w.heap.size w w' := by
  have hsb : ((sel : Int) % 2 == 0) = true := by simp; omega
  have hab : ((at' : Int) == 0) = true := by simp; omega
  have dn : decide (0 < (n : Int)) = true := by simp; omega
  have ly := hE.y (n - 1) (by omega)
  have lz := hE.z (n - 1) (by omega)
  have htg := tri_getD X Y Z (n - 1) n (by omega)
  have HE : Hid _ := hE
  obtain ⟨clen, hY⟩ : ∃ v, Y (n - 1) = v := ⟨_, rfl⟩
  obtain ⟨centry, hZ⟩ : ∃ v, Z (n - 1) = v := ⟨_, rfl⟩
  rw [hY] at ly htg
  rw [hZ] at lz htg
  have HSK : Hid (at' = 0 ∨ (0 < n ∧ (tri X Y Z n).getD (3 * (n - 1) + 1) 0 = clen ∧ (tri X Y Z n).getD (3 * (n - 1) + 2) 0 = centry)) := Or.inl hat
  have HYL : Hid _ := hY
  have HZL : Hid _ := hZ
  clear hE hs2 htg hY hZ hat
  go_enter Yba.func3, Yba.ntmps3
  go_wp2_with fail
  go_loopw [11, 58] (fun v i wr => ∃ k : Nat, k ≤ n ∧ i = .int .i64 (k : Int) ∧ wr.ownsRow w.heap.size 5 1 v (12 * k) (bes (tri X Y Z k)) ∧ w.grownBy wr none) (fun _ i _ => n - (intOf i).toNat)
  case atStart => exact ⟨0, Nat.zero_le _, rfl, World.ownsRow_nil _ _ _ _, grown_refl _ _⟩
  case round =>
    obtain ⟨k, hk, rfl, howr, hgr⟩ := hrel
    by_cases hlt : k < n
    · have x := (HE.out.later hgr (by simp)).x k hlt
      have y := (HE.out.later hgr (by simp)).y k hlt
      have z := (HE.out.later hgr (by simp)).z k hlt
      have bk := HE.out.bd k hlt
      have hB0 := hgr.size
      have HT : Hid _ := tri_bes X Y Z k
      clear ly lz
      generalize X k = xk at *
      generalize Y k = yk at *
      generalize Z k = zk at *
      have hst : some wr.heap.size ≠ u11.ownBlock := fun e => by have := (howr.lt _ e.symm).2; omega
      have a0 : (wr.alloc (.cells #[.int .u32 (xk : Int), .int .u32 (yk : Int), .int .u32 (zk : Int)] 25)).cell? ⟨wr.heap.size, 0, none⟩ = some (.int .u32 (xk : Int)) := World.cell?_alloc_at _ _ _ _ rfl
      have a1 : (wr.alloc (.cells #[.int .u32 (xk : Int), .int .u32 (yk : Int), .int .u32 (zk : Int)] 25)).cell? ⟨wr.heap.size, 1, none⟩ = some (.int .u32 (yk : Int)) := World.cell?_alloc_at _ _ _ _ rfl
      have a2 : (wr.alloc (.cells #[.int .u32 (xk : Int), .int .u32 (yk : Int), .int .u32 (zk : Int)] 25)).cell? ⟨wr.heap.size, 2, none⟩ = some (.int .u32 (zk : Int)) := World.cell?_alloc_at _ _ _ _ rfl
      have hc1 := app_step (w := w) (t := wr.heap.size) bk.1 (howr.alloc (.cells #[.int .u32 (xk : Int), .int .u32 (yk : Int), .int .u32 (zk : Int)] 25)) (grown_alloc hgr _) (by simp) hst (by omega)
      have HC1 : Hid _ := hc1
      clear hc1 howr hgr
      go_wp2_with fail
      generalize wr.alloc (.cells #[.int .u32 (xk : Int), .int .u32 (yk : Int), .int .u32 (zk : Int)] 25) = wa at *
      refine Calls.mono HC1.out ?_
      rintro e w2 ⟨g1, c1, rfl, ho2, hg2, hk2, ht2, hn2⟩
      have b1 := hk2 _ _ a1
      have b2 := hk2 _ _ a2
      have hc2 := app_step (w := w) (t := wr.heap.size) bk.2.1 ho2 hg2 ht2 hn2 (by omega)
      have HC2 : Hid _ := hc2
      clear hc2 HC1 ho2 hg2 hk2 ht2 hn2 a0 a1 a2
      go_wp2_with fail
      refine Calls.mono HC2.out ?_
      rintro e w3 ⟨g2, c2, rfl, ho3, hg3, hk3, ht3, hn3⟩
      have d2 := hk3 _ _ b2
      have hc3 := app_step (w := w) (t := wr.heap.size) bk.2.2 ho3 hg3 ht3 hn3 (by omega)
      have HC3 : Hid _ := hc3
      clear hc3 HC2 ho3 hg3 hk3 ht3 hn3 b1 b2
      go_wp2_with fail
      refine Calls.mono HC3.out ?_
      rintro e w4 ⟨g3, c3, rfl, ho4, hg4, hk4, ht4, hn4⟩
      rw [HT.out] at ho4
      clear HC3 hk4 ht4 hn4 d2
      go_wp2
      go_roundw
      case rel => exact ⟨k + 1, by omega, by go_num, ho4, hg4⟩
      case measure => simp [intOf]; omega
    · obtain rfl : k = n := by omega
      have hE1 := HE.out.later hgr (by simp)
      have hB0 := hgr.size
      clear hlt
      rcases howr.2 with ⟨_, h0⟩ | ⟨g, cap, cur, rfl, hb1, hb2, hb3, hb4, hb5, hb6⟩
      · omega
      have hbn := bd_new wr (.slice (some ⟨g, 0, none⟩) (12 * k) cap) k at' clen centry
      have hgA := grown_alloc hgr (.cells (bd0 (.slice (some ⟨g, 0, none⟩) (12 * k) cap) k at' clen centry) 35)
      have hoA := howr.alloc (.cells (bd0 (.slice (some ⟨g, 0, none⟩) (12 * k) cap) k at' clen centry) 35)
      have hoA' : (wr.alloc (.cells (bd0 (.slice (some ⟨g, 0, none⟩) (12 * k) cap) k at' clen centry) 35)).ownsRow w.heap.size 5 1 (.slice (some ⟨g, 0, none⟩) (12 * k) cap) (0 + 12 * k) ([] ++ bes (tri X Y Z k)) := by simpa using hoA
      have hend := end_skip _ w.heap.size wr.heap.size 0 k at' clen centry _ [] (tri X Y Z k) hbn hoA' rfl (by decide) (tri_len X Y Z k) (by omega) (tri_bound HE.out.bd k (Nat.le_refl _)) HSK.out
      have hRw := Rw.of hoA (by rw [tri_len]; omega) (tri_bound HE.out.bd k (Nat.le_refl _)) (by omega)
      have HEND : Hid _ := hend
      have HBN : Hid _ := hbn
      have HRW : Hid _ := hRw
      have HGA : Hid _ := hgA
      clear hb2 hb4 hb5 hb6 howr hgr hE1 hend hbn hRw hgA hoA hoA'
      simp only [bd0] at HEND HBN HRW HGA
      go_wp2_with fail
      refine Calls.mono HEND.out ?_
      rintro e w5 ⟨rfl, hg5⟩
      have hB5 := HBN.out.later hg5 (by simp)
      have hR5 := HRW.out.later hg5
      have hg6 := grown_trans HGA.out hg5
      have hE5 := HE.out.later hg6 (by simp)
      obtain ⟨_, _, c20, c21, c22, c23, c27, c28, c29⟩ := hB5
      have HR5 : Hid _ := hR5
      have HE5 : Hid _ := hE5
      have HG6 : Hid _ := hg6
      clear HEND HBN HRW HGA hg5 hR5 hE5 hg6
      go_wp2_with fail
      go_loopw [18] (fun i wr2 => ∃ j : Nat, j ≤ k ∧ i = .int .i64 (j : Int) ∧ w5.grownBy wr2 none) (fun i _ => k - (intOf i).toNat)
      case atStart => exact ⟨0, Nat.zero_le _, rfl, grown_refl _ _⟩
      case round =>
        obtain ⟨j, hj, rfl, hgj⟩ := hrel
        by_cases hjk : j < k
        · have hRj := HR5.out.later hgj
          have hl3 := tri_len X Y Z k
          have t := tri_getD X Y Z j k hjk
          have q20 := hgj.cell c20 (by simp)
          have hc1 := get_any _ g (12 * k) cap (3 * j) _ hRj (by omega) (3 * (j : Int)) (by omega)
          rw [t.1] at hc1
          have HC1 : Hid _ := hc1
          have HRj : Hid _ := hRj
          have HT : Hid _ := t
          have HGJ : Hid _ := hgj
          clear hc1 hRj t hgj hl3
          go_wp2_with fail
          refine Calls.mono HC1.out ?_
          rintro e w6 ⟨rfl, hg6⟩
          have hl3 := tri_len X Y Z k
          have r20 := hg6.cell q20 (by simp)
          have hRj2 := HRj.out.later hg6
          have hc2 := get_any w6 g (12 * k) cap (3 * j + 1) _ hRj2 (by omega) (3 * (j : Int) + 1) (by omega)
          rw [HT.out.2.1] at hc2
          have HC2 : Hid _ := hc2
          have HRj2 : Hid _ := hRj2
          have HGJ2 : Hid _ := grown_trans HGJ.out hg6
          clear hc2 hRj2 hg6 HC1 HRj HGJ hl3 q20
          go_wp2_with fail
          refine Calls.mono HC2.out ?_
          rintro e w7 ⟨rfl, hg7⟩
          have hl3 := tri_len X Y Z k
          have s20 := hg7.cell r20 (by simp)
          have hRj3 := HRj2.out.later hg7
          have hc3 := get_any w7 g (12 * k) cap (3 * j + 2) _ hRj3 (by omega) (3 * (j : Int) + 2) (by omega)
          rw [HT.out.2.2] at hc3
          have HC3 : Hid _ := hc3
          have HGJ3 : Hid _ := grown_trans HGJ2.out hg7
          clear hc3 hRj3 hg7 HC2 HRj2 HGJ2 hl3 r20
          go_wp2_with fail
          refine Calls.mono HC3.out ?_
          rintro e w8 ⟨rfl, hg8⟩
          have hg9 := grown_trans HGJ3.out hg8
          have hE8 := HE5.out.later hg9 (by simp)
          have x8 := hE8.x j hjk
          have y8 := hE8.y j hjk
          have z8 := hE8.z j hjk
          have HG9 : Hid _ := hg9
          clear HC3 HGJ3 hg8 hg9 hE8 HT s20
          generalize X j = xj at *
          generalize Y j = yj at *
          generalize Z j = zj at *
          go_wp2
          go_roundw
          case rel => exact ⟨j + 1, by omega, by go_num, HG9.out⟩
          case measure => simp [intOf]; omega
        · obtain rfl : j = k := by omega
          have HG7 : Hid _ := grown_trans HG6.out hgj
          clear hgj
          go_wp2
          go_ret
          exact ⟨rfl, grown_below HG7.out (Nat.le_refl _)⟩

set_option maxRecDepth 100000 in
set_option maxHeartbeats 4000000 in
theorem law_odd_at0 (w : World) (p q n c at' cl ce sel : Nat) (X Y Z : Nat → Nat) (hn0 : 0 < n) (hn1 : n ≤ 1024) (hE : En w p q n X Y Z) (hsel : sel < 256) (hs2 : sel % 2 ≠ 0) (hat : at' = 0) :
    Calls Yba.prog 3 #[.slice (some ⟨p, q, none⟩) n c, .int .u32 (at' : Int), .int .u32 (cl : Int), .int .u32 (ce : Int), .int .u8 (sel : Int)] w fun e w' => e = .returned (.bool true) ∧ Below w.heap.size w w' := by
  have hsb : ((sel : Int) % 2 == 0) = false := by simp; omega
  have hab : ((at' : Int) == 0) = true := by simp; omega
  have dn : decide (0 < (n : Int)) = true := by simp; omega
  have ly := hE.y (n - 1) (by omega)
  have lz := hE.z (n - 1) (by omega)
  have htg := tri_getD X Y Z (n - 1) n (by omega)
  have HE : Hid _ := hE
  have HSK : Hid (at' = 0 ∨ (0 < n ∧ (tri X Y Z n).getD (3 * (n - 1) + 1) 0 = cl ∧ (tri X Y Z n).getD (3 * (n - 1) + 2) 0 = ce)) := Or.inl hat
  clear hE hs2 htg hat
  go_enter Yba.func3, Yba.ntmps3
  go_wp2_with fail
  go_loopw [11, 58] (fun v i wr => ∃ k : Nat, k ≤ n ∧ i = .int .i64 (k : Int) ∧ wr.ownsRow w.heap.size 5 1 v (12 * k) (bes (tri X Y Z k)) ∧ w.grownBy wr none) (fun _ i _ => n - (intOf i).toNat)
  case atStart => exact ⟨0, Nat.zero_le _, rfl, World.ownsRow_nil _ _ _ _, grown_refl _ _⟩
  case round =>
    obtain ⟨k, hk, rfl, howr, hgr⟩ := hrel
    by_cases hlt : k < n
    · have x := (HE.out.later hgr (by simp)).x k hlt
      have y := (HE.out.later hgr (by simp)).y k hlt
      have z := (HE.out.later hgr (by simp)).z k hlt
      have bk := HE.out.bd k hlt
      have hB0 := hgr.size
      have HT : Hid _ := tri_bes X Y Z k
      clear ly lz
      generalize X k = xk at *
      generalize Y k = yk at *
      generalize Z k = zk at *
      have hst : some wr.heap.size ≠ u11.ownBlock := fun e => by have := (howr.lt _ e.symm).2; omega
      have a0 : (wr.alloc (.cells #[.int .u32 (xk : Int), .int .u32 (yk : Int), .int .u32 (zk : Int)] 25)).cell? ⟨wr.heap.size, 0, none⟩ = some (.int .u32 (xk : Int)) := World.cell?_alloc_at _ _ _ _ rfl
      have a1 : (wr.alloc (.cells #[.int .u32 (xk : Int), .int .u32 (yk : Int), .int .u32 (zk : Int)] 25)).cell? ⟨wr.heap.size, 1, none⟩ = some (.int .u32 (yk : Int)) := World.cell?_alloc_at _ _ _ _ rfl
      have a2 : (wr.alloc (.cells #[.int .u32 (xk : Int), .int .u32 (yk : Int), .int .u32 (zk : Int)] 25)).cell? ⟨wr.heap.size, 2, none⟩ = some (.int .u32 (zk : Int)) := World.cell?_alloc_at _ _ _ _ rfl
      have hc1 := app_step (w := w) (t := wr.heap.size) bk.1 (howr.alloc (.cells #[.int .u32 (xk : Int), .int .u32 (yk : Int), .int .u32 (zk : Int)] 25)) (grown_alloc hgr _) (by simp) hst (by omega)
      have HC1 : Hid _ := hc1
      clear hc1 howr hgr
      go_wp2_with fail
      generalize wr.alloc (.cells #[.int .u32 (xk : Int), .int .u32 (yk : Int), .int .u32 (zk : Int)] 25) = wa at *
      refine Calls.mono HC1.out ?_
      rintro e w2 ⟨g1, c1, rfl, ho2, hg2, hk2, ht2, hn2⟩
      have b1 := hk2 _ _ a1
      have b2 := hk2 _ _ a2
      have hc2 := app_step (w := w) (t := wr.heap.size) bk.2.1 ho2 hg2 ht2 hn2 (by omega)
      have HC2 : Hid _ := hc2
      clear hc2 HC1 ho2 hg2 hk2 ht2 hn2 a0 a1 a2
      go_wp2_with fail
      refine Calls.mono HC2.out ?_
      rintro e w3 ⟨g2, c2, rfl, ho3, hg3, hk3, ht3, hn3⟩
      have d2 := hk3 _ _ b2
      have hc3 := app_step (w := w) (t := wr.heap.size) bk.2.2 ho3 hg3 ht3 hn3 (by omega)
      have HC3 : Hid _ := hc3
      clear hc3 HC2 ho3 hg3 hk3 ht3 hn3 b1 b2
      go_wp2_with fail
      refine Calls.mono HC3.out ?_
      rintro e w4 ⟨g3, c3, rfl, ho4, hg4, hk4, ht4, hn4⟩
      rw [HT.out] at ho4
      clear HC3 hk4 ht4 hn4 d2
      go_wp2
      go_roundw
      case rel => exact ⟨k + 1, by omega, by go_num, ho4, hg4⟩
      case measure => simp [intOf]; omega
    · obtain rfl : k = n := by omega
      have hE1 := HE.out.later hgr (by simp)
      have hB0 := hgr.size
      clear hlt
      rcases howr.2 with ⟨_, h0⟩ | ⟨g, cap, cur, rfl, hb1, hb2, hb3, hb4, hb5, hb6⟩
      · omega
      have hbn := bd_new wr (.slice (some ⟨g, 0, none⟩) (12 * k) cap) k at' cl ce
      have hgA := grown_alloc hgr (.cells (bd0 (.slice (some ⟨g, 0, none⟩) (12 * k) cap) k at' cl ce) 35)
      have hoA := howr.alloc (.cells (bd0 (.slice (some ⟨g, 0, none⟩) (12 * k) cap) k at' cl ce) 35)
      have hoA' : (wr.alloc (.cells (bd0 (.slice (some ⟨g, 0, none⟩) (12 * k) cap) k at' cl ce) 35)).ownsRow w.heap.size 5 1 (.slice (some ⟨g, 0, none⟩) (12 * k) cap) (0 + 12 * k) ([] ++ bes (tri X Y Z k)) := by simpa using hoA
      have hend := end_skip _ w.heap.size wr.heap.size 0 k at' cl ce _ [] (tri X Y Z k) hbn hoA' rfl (by decide) (tri_len X Y Z k) (by omega) (tri_bound HE.out.bd k (Nat.le_refl _)) HSK.out
      have hRw := Rw.of hoA (by rw [tri_len]; omega) (tri_bound HE.out.bd k (Nat.le_refl _)) (by omega)
      have HEND : Hid _ := hend
      have HBN : Hid _ := hbn
      have HRW : Hid _ := hRw
      have HGA : Hid _ := hgA
      clear hb2 hb4 hb5 hb6 howr hgr hE1 hend hbn hRw hgA hoA hoA'
      simp only [bd0] at HEND HBN HRW HGA
      go_wp2_with fail
      refine Calls.mono HEND.out ?_
      rintro e w5 ⟨rfl, hg5⟩
      have hB5 := HBN.out.later hg5 (by simp)
      have hR5 := HRW.out.later hg5
      have hg6 := grown_trans HGA.out hg5
      have hE5 := HE.out.later hg6 (by simp)
      obtain ⟨_, _, c20, c21, c22, c23, c27, c28, c29⟩ := hB5
      have HR5 : Hid _ := hR5
      have HE5 : Hid _ := hE5
      have HG6 : Hid _ := hg6
      clear HEND HBN HRW HGA hg5 hR5 hE5 hg6
      go_wp2_with fail
      go_loopw [18] (fun i wr2 => ∃ j : Nat, j ≤ k ∧ i = .int .i64 (j : Int) ∧ w5.grownBy wr2 none) (fun i _ => k - (intOf i).toNat)
      case atStart => exact ⟨0, Nat.zero_le _, rfl, grown_refl _ _⟩
      case round =>
        obtain ⟨j, hj, rfl, hgj⟩ := hrel
        by_cases hjk : j < k
        · have hRj := HR5.out.later hgj
          have hl3 := tri_len X Y Z k
          have t := tri_getD X Y Z j k hjk
          have q20 := hgj.cell c20 (by simp)
          have hc1 := get_any _ g (12 * k) cap (3 * j) _ hRj (by omega) (3 * (j : Int)) (by omega)
          rw [t.1] at hc1
          have HC1 : Hid _ := hc1
          have HRj : Hid _ := hRj
          have HT : Hid _ := t
          have HGJ : Hid _ := hgj
          clear hc1 hRj t hgj hl3
          go_wp2_with fail
          refine Calls.mono HC1.out ?_
          rintro e w6 ⟨rfl, hg6⟩
          have hl3 := tri_len X Y Z k
          have r20 := hg6.cell q20 (by simp)
          have hRj2 := HRj.out.later hg6
          have hc2 := get_any w6 g (12 * k) cap (3 * j + 1) _ hRj2 (by omega) (3 * (j : Int) + 1) (by omega)
          rw [HT.out.2.1] at hc2
          have HC2 : Hid _ := hc2
          have HRj2 : Hid _ := hRj2
          have HGJ2 : Hid _ := grown_trans HGJ.out hg6
          clear hc2 hRj2 hg6 HC1 HRj HGJ hl3 q20
          go_wp2_with fail
          refine Calls.mono HC2.out ?_
          rintro e w7 ⟨rfl, hg7⟩
          have hl3 := tri_len X Y Z k
          have s20 := hg7.cell r20 (by simp)
          have hRj3 := HRj2.out.later hg7
          have hc3 := get_any w7 g (12 * k) cap (3 * j + 2) _ hRj3 (by omega) (3 * (j : Int) + 2) (by omega)
          rw [HT.out.2.2] at hc3
          have HC3 : Hid _ := hc3
          have HGJ3 : Hid _ := grown_trans HGJ2.out hg7
          clear hc3 hRj3 hg7 HC2 HRj2 HGJ2 hl3 r20
          go_wp2_with fail
          refine Calls.mono HC3.out ?_
          rintro e w8 ⟨rfl, hg8⟩
          have hg9 := grown_trans HGJ3.out hg8
          have hE8 := HE5.out.later hg9 (by simp)
          have x8 := hE8.x j hjk
          have y8 := hE8.y j hjk
          have z8 := hE8.z j hjk
          have HG9 : Hid _ := hg9
          clear HC3 HGJ3 hg8 hg9 hE8 HT s20
          generalize X j = xj at *
          generalize Y j = yj at *
          generalize Z j = zj at *
          go_wp2
          go_roundw
          case rel => exact ⟨j + 1, by omega, by go_num, HG9.out⟩
          case measure => simp [intOf]; omega
        · obtain rfl : j = k := by omega
          have HG7 : Hid _ := grown_trans HG6.out hgj
          clear hgj
          go_wp2
          go_ret
          exact ⟨rfl, grown_below HG7.out (Nat.le_refl _)⟩

end Go.Proofs.Ybulksxo.Bx
