import Derived.Test.YbulksxoGet
namespace Go.Proofs.Ybulksxo.Bx
open Go Go.RowKit

def tri (X Y Z : Nat → Nat) : Nat → List Nat
  | 0 => []
  | k + 1 => tri X Y Z k ++ [X k, Y k, Z k]
theorem tri_len (X Y Z : Nat → Nat) (k : Nat) : (tri X Y Z k).length = 3 * k := by
  induction k with
  | zero => rfl
  | succ k ih => simp [tri, ih]; omega
theorem tri_get (X Y Z : Nat → Nat) (i j : Nat) (hj : j < 3) : ∀ k, i < k → (tri X Y Z k)[3 * i + j]? = [X i, Y i, Z i][j]? := by
  intro k
  induction k with
  | zero => intro h; omega
  | succ k ih =>
    intro h
    simp only [tri]
    by_cases hik : i < k
    · rw [List.getElem?_append_left (by rw [tri_len]; omega)]; exact ih hik
    · obtain rfl : i = k := by omega
      rw [List.getElem?_append_right (by rw [tri_len]; omega), tri_len, show 3 * i + j - 3 * i = j by omega]
theorem tri_bound {X Y Z : Nat → Nat} {n : Nat} (h : ∀ i, i < n → X i < 4294967296 ∧ Y i < 4294967296 ∧ Z i < 4294967296) : ∀ k, k ≤ n → ∀ v ∈ tri X Y Z k, v < 4294967296 := by
  intro k
  induction k with
  | zero => intro _ v hv; simp [tri] at hv
  | succ k ih =>
    intro hk v hv
    simp only [tri, List.mem_append, List.mem_cons, List.not_mem_nil, or_false] at hv
    have := h k (by omega)
    rcases hv with hv | rfl | rfl | rfl
    · exact ih (by omega) v hv
    · exact this.1
    · exact this.2.1
    · exact this.2.2
theorem tri_bes (X Y Z : Nat → Nat) (k : Nat) : bes (tri X Y Z k) ++ be (X k) ++ be (Y k) ++ be (Z k) = bes (tri X Y Z (k + 1)) := by
  simp only [tri, bes_append, List.append_assoc]
  simp [bes]

theorem app_step {w w1 : World} {n v t : Nat} {sv : Value} {xs : List Value} (hv : v < 4294967296) (ho : w1.ownsRow w.heap.size 5 1 sv n xs) (hg : w.grownBy w1 none) (ht : t < w1.heap.size) (htn : some t ≠ sv.ownBlock) (hlim : n + 4 ≤ 1000000000) :
    Calls Yba.prog 4 #[.agg #[], sv, .int .u32 (v : Int)] w1 fun e w2 => ∃ g c, e = .returned (.slice (some ⟨g, 0, none⟩) (n + 4) c) ∧ w2.ownsRow w.heap.size 5 1 (.slice (some ⟨g, 0, none⟩) (n + 4) c) (n + 4) (xs ++ be v) ∧ w.grownBy w2 none ∧ (∀ j u, w1.cell? ⟨t, j, none⟩ = some u → w2.cell? ⟨t, j, none⟩ = some u) ∧ t < w2.heap.size ∧ some t ≠ (Value.slice (some ⟨g, 0, none⟩) (n + 4) c).ownBlock :=
  (app_at w.heap.size n v hv sv xs w1 ho hg.size hlim).mono fun e w2 ⟨g, c, he, ho2, hg2, hn⟩ => by
    refine ⟨g, c, he, ho2, grown_new hg hg2 (fun b hb => Or.inl (ho.lt b hb).1), fun j u hu => hg2.cell hu htn, Nat.lt_of_lt_of_le ht hg2.size, ?_⟩
    intro e
    simp [Value.ownBlock] at e
    subst e
    rcases hn with h | h
    · exact htn h.symm
    · omega

theorem tri_getD (X Y Z : Nat → Nat) (i k : Nat) (h : i < k) : (tri X Y Z k).getD (3 * i) 0 = X i ∧ (tri X Y Z k).getD (3 * i + 1) 0 = Y i ∧ (tri X Y Z k).getD (3 * i + 2) 0 = Z i := by
  have h0 := tri_get X Y Z i 0 (by decide) k h
  have h1 := tri_get X Y Z i 1 (by decide) k h
  have h2 := tri_get X Y Z i 2 (by decide) k h
  simp only [Nat.add_zero] at h0
  simp [List.getD, h0, h1, h2]

/-- The builder that the law lays. -/
def bd0 (buf : Value) (n at' clen centry : Nat) : Array Value :=
  #[.int .u32 0, .int .u64 0, .int .i64 0, .int .i64 0, .slice none 0 0, .int .i64 0, .int .i64 0, .int .u32 0, .slice none 0 0, .int .i64 0, .int .i64 0, .int .u32 0, .slice none 0 0, .int .i64 0, .int .i64 0, .int .u32 0, .slice none 0 0, .int .i64 0, .int .i64 0, .int .u32 0,
    buf, .int .i64 0, .int .i64 12, .int .u32 (n : Int), .slice none 0 0, .int .i64 0, .int .i64 0, .int .u32 (at' : Int), .int .u32 (clen : Int), .int .u32 (centry : Int), .int .i64 0]
theorem bd_new (w : World) (buf : Value) (n at' clen centry : Nat) : Bd (w.alloc (.cells (bd0 buf n at' clen centry) 35)) w.heap.size buf 0 n at' clen centry := by
  refine ⟨⟨_, 35, _, heap_alloc_new w _, by decide⟩, fun j => by rw [frozen?_alloc_cells]; simp [World.frozen?], World.cell?_alloc_at _ _ _ _ rfl, World.cell?_alloc_at _ _ _ _ rfl, World.cell?_alloc_at _ _ _ _ rfl, World.cell?_alloc_at _ _ _ _ rfl, World.cell?_alloc_at _ _ _ _ rfl, World.cell?_alloc_at _ _ _ _ rfl, World.cell?_alloc_at _ _ _ _ rfl⟩

/-- The entries that came in. -/
structure En (w : World) (p q n : Nat) (X Y Z : Nat → Nat) : Prop where
  x : ∀ i, i < n → w.cell? ⟨p, q + i * 3, none⟩ = some (.int .u32 (X i : Nat))
  y : ∀ i, i < n → w.cell? ⟨p, q + i * 3 + 1, none⟩ = some (.int .u32 (Y i : Nat))
  z : ∀ i, i < n → w.cell? ⟨p, q + i * 3 + 2, none⟩ = some (.int .u32 (Z i : Nat))
  bd : ∀ i, i < n → X i < 4294967296 ∧ Y i < 4294967296 ∧ Z i < 4294967296
theorem En.later {w w1 : World} {p q n : Nat} {X Y Z : Nat → Nat} {r : Option Nat} (h : En w p q n X Y Z) (k : w.grownBy w1 r) (hr : some p ≠ r) : En w1 p q n X Y Z :=
  ⟨fun i hi => k.cell (h.x i hi) hr, fun i hi => k.cell (h.y i hi) hr, fun i hi => k.cell (h.z i hi) hr, h.bd⟩


theorem app_len (X Y Z : Nat → Nat) (k a b c : Nat) : (tri X Y Z k ++ [a, b, c]).length = 3 * k + 3 := by simp [tri_len]
theorem app_getD (X Y Z : Nat → Nat) (i k a b c : Nat) (h : i < k) : (tri X Y Z k ++ [a, b, c]).getD (3 * i) 0 = X i ∧ (tri X Y Z k ++ [a, b, c]).getD (3 * i + 1) 0 = Y i ∧ (tri X Y Z k ++ [a, b, c]).getD (3 * i + 2) 0 = Z i := by
  have t := tri_getD X Y Z i k h
  have hl := tri_len X Y Z k
  simp only [List.getD] at t ⊢
  rw [List.getElem?_append_left (by omega), List.getElem?_append_left (by omega), List.getElem?_append_left (by omega)]
  exact t
theorem app_last (X Y Z : Nat → Nat) (k a b c : Nat) : (tri X Y Z k ++ [a, b, c]).getD (3 * k) 0 = a ∧ (tri X Y Z k ++ [a, b, c]).getD (3 * k + 1) 0 = b ∧ (tri X Y Z k ++ [a, b, c]).getD (3 * k + 2) 0 = c := by
  have hl := tri_len X Y Z k
  simp only [List.getD]
  rw [List.getElem?_append_right (by omega), List.getElem?_append_right (by omega), List.getElem?_append_right (by omega), hl]
  refine ⟨?_, ?_, ?_⟩
  · rw [show 3 * k - 3 * k = 0 by omega]; rfl
  · rw [show 3 * k + 1 - 3 * k = 1 by omega]; rfl
  · rw [show 3 * k + 2 - 3 * k = 2 by omega]; rfl
theorem app_bound {L : List Nat} {a b c : Nat} (h : ∀ v ∈ L, v < 4294967296) (ha : a < 4294967296) (hb : b < 4294967296) (hc : c < 4294967296) : ∀ v ∈ L ++ [a, b, c], v < 4294967296 := by
  intro v hv
  simp only [List.mem_append, List.mem_cons, List.not_mem_nil, or_false] at hv
  rcases hv with hv | rfl | rfl | rfl
  · exact h v hv
  · exact ha
  · exact hb
  · exact hc
/-- What 'add' leaves of the world that the law came with. -/
theorem grown_bk {w w1 w2 : World} {b o : Nat} {r : Option Nat} (h : w.grownBy w1 none) (k : Bk w1 w2 b o r) (hb : w.heap.size ≤ b) (hr : ∀ j, r = some j → w.heap.size ≤ j) : w.grownBy w2 none :=
  ⟨k.os.trans h.os, k.tape.trans h.tape, k.output.trans h.output, Nat.le_trans h.size k.size, fun j hj _ => (k.block j (Nat.lt_of_lt_of_le hj h.size) (by omega) (fun e => by have := hr j e.symm; omega)).trans (h.block j hj (by simp))⟩

set_option maxRecDepth 100000 in
set_option maxHeartbeats 4000000 in
theorem law_even_eq (w : World) (p q n c at' cl ce sel : Nat) (X Y Z : Nat → Nat) (hn0 : 0 < n) (hn1 : n ≤ 1024) (hE : En w p q n X Y Z) (hsel : sel < 256) (hs2 : sel % 2 = 0) (hat : at' ≠ 0) :
    Calls Yba.prog 3 #[.slice (some ⟨p, q, none⟩) n c, .int .u32 (at' : Int), .int .u32 (cl : Int), .int .u32 (ce : Int), .int .u8 (sel : Int)] w fun e w' => e = .returned (.bool true) ∧ Below w.heap.size w w' := by
  have hsb : ((sel : Int) % 2 == 0) = true := by simp; omega
  have hab : ((at' : Int) == 0) = false := by simp; omega
  have dn : decide (0 < (n : Int)) = true := by simp; omega
  have ly := hE.y (n - 1) (by omega)
  have lz := hE.z (n - 1) (by omega)
  have htg := tri_getD X Y Z (n - 1) n (by omega)
  have HE : Hid _ := hE
  obtain ⟨clen, hY⟩ : ∃ v, Y (n - 1) = v := ⟨_, rfl⟩
  obtain ⟨centry, hZ⟩ : ∃ v, Z (n - 1) = v := ⟨_, rfl⟩
  rw [hY] at ly htg
  rw [hZ] at lz htg
  have HSK : Hid (at' = 0 ∨ (0 < n ∧ (tri X Y Z n).getD (3 * (n - 1) + 1) 0 = clen ∧ (tri X Y Z n).getD (3 * (n - 1) + 2) 0 = centry)) := Or.inr ⟨hn0, htg.2.1, htg.2.2⟩
  have HYL : Hid _ := hY
  have HZL : Hid _ := hZ
  clear hE hs2 htg hY hZ
  go_enter Yba.func3, Yba.ntmps3
  go_wp2_with fail
  go_loopw [11, 58] (fun v i wr => ∃ k : Nat, k ≤ n ∧ i = .int .i64 (k : Int) ∧ wr.ownsRow w.heap.size 5 1 v (12 * k) (bes (tri X Y Z k)) ∧ w.grownBy wr none) (fun _ i _ => n - (intOf i).toNat)
  case atStart => exact ⟨0, Nat.zero_le _, rfl, World.ownsRow_nil _ _ _ _, grown_refl _ _⟩
  case round =>
    obtain ⟨k, hk, rfl, howr, hgr⟩ := hrel
    by_cases hlt : k < n
    · have x := (HE.out.later hgr (by simp)).x k hlt
      have y := (HE.out.later hgr (by simp)).y k hlt
      have z := (HE.out.later hgr (by simp)).z k hlt
      have bk := HE.out.bd k hlt
      have hB0 := hgr.size
      have HT : Hid _ := tri_bes X Y Z k
      clear ly lz
      generalize X k = xk at *
      generalize Y k = yk at *
      generalize Z k = zk at *
      have hst : some wr.heap.size ≠ u11.ownBlock := fun e => by have := (howr.lt _ e.symm).2; omega
      have a0 : (wr.alloc (.cells #[.int .u32 (xk : Int), .int .u32 (yk : Int), .int .u32 (zk : Int)] 25)).cell? ⟨wr.heap.size, 0, none⟩ = some (.int .u32 (xk : Int)) := World.cell?_alloc_at _ _ _ _ rfl
      have a1 : (wr.alloc (.cells #[.int .u32 (xk : Int), .int .u32 (yk : Int), .int .u32 (zk : Int)] 25)).cell? ⟨wr.heap.size, 1, none⟩ = some (.int .u32 (yk : Int)) := World.cell?_alloc_at _ _ _ _ rfl
      have a2 : (wr.alloc (.cells #[.int .u32 (xk : Int), .int .u32 (yk : Int), .int .u32 (zk : Int)] 25)).cell? ⟨wr.heap.size, 2, none⟩ = some (.int .u32 (zk : Int)) := World.cell?_alloc_at _ _ _ _ rfl
      have hc1 := app_step (w := w) (t := wr.heap.size) bk.1 (howr.alloc (.cells #[.int .u32 (xk : Int), .int .u32 (yk : Int), .int .u32 (zk : Int)] 25)) (grown_alloc hgr _) (by simp) hst (by omega)
      have HC1 : Hid _ := hc1
      clear hc1 howr hgr
      go_wp2_with fail
      generalize wr.alloc (.cells #[.int .u32 (xk : Int), .int .u32 (yk : Int), .int .u32 (zk : Int)] 25) = wa at *
      refine Calls.mono HC1.out ?_
      rintro e w2 ⟨g1, c1, rfl, ho2, hg2, hk2, ht2, hn2⟩
      have b1 := hk2 _ _ a1
      have b2 := hk2 _ _ a2
      have hc2 := app_step (w := w) (t := wr.heap.size) bk.2.1 ho2 hg2 ht2 hn2 (by omega)
      have HC2 : Hid _ := hc2
      clear hc2 HC1 ho2 hg2 hk2 ht2 hn2 a0 a1 a2
      go_wp2_with fail
      refine Calls.mono HC2.out ?_
      rintro e w3 ⟨g2, c2, rfl, ho3, hg3, hk3, ht3, hn3⟩
      have d2 := hk3 _ _ b2
      have hc3 := app_step (w := w) (t := wr.heap.size) bk.2.2 ho3 hg3 ht3 hn3 (by omega)
      have HC3 : Hid _ := hc3
      clear hc3 HC2 ho3 hg3 hk3 ht3 hn3 b1 b2
      go_wp2_with fail
      refine Calls.mono HC3.out ?_
      rintro e w4 ⟨g3, c3, rfl, ho4, hg4, hk4, ht4, hn4⟩
      rw [HT.out] at ho4
      clear HC3 hk4 ht4 hn4 d2
      go_wp2
      go_roundw
      case rel => exact ⟨k + 1, by omega, by go_num, ho4, hg4⟩
      case measure => simp [intOf]; omega
    · obtain rfl : k = n := by omega
      have hE1 := HE.out.later hgr (by simp)
      have hB0 := hgr.size
      clear hlt
      rcases howr.2 with ⟨_, h0⟩ | ⟨g, cap, cur, rfl, hb1, hb2, hb3, hb4, hb5, hb6⟩
      · omega
      have hbn := bd_new wr (.slice (some ⟨g, 0, none⟩) (12 * k) cap) k at' clen centry
      have hgA := grown_alloc hgr (.cells (bd0 (.slice (some ⟨g, 0, none⟩) (12 * k) cap) k at' clen centry) 35)
      have hoA := howr.alloc (.cells (bd0 (.slice (some ⟨g, 0, none⟩) (12 * k) cap) k at' clen centry) 35)
      have hoA' : (wr.alloc (.cells (bd0 (.slice (some ⟨g, 0, none⟩) (12 * k) cap) k at' clen centry) 35)).ownsRow w.heap.size 5 1 (.slice (some ⟨g, 0, none⟩) (12 * k) cap) (0 + 12 * k) ([] ++ bes (tri X Y Z k)) := by simpa using hoA
      have hend := end_skip _ w.heap.size wr.heap.size 0 k at' clen centry _ [] (tri X Y Z k) hbn hoA' rfl (by decide) (tri_len X Y Z k) (by omega) (tri_bound HE.out.bd k (Nat.le_refl _)) HSK.out
      have hRw := Rw.of hoA (by rw [tri_len]; omega) (tri_bound HE.out.bd k (Nat.le_refl _)) (by omega)
      have HEND : Hid _ := hend
      have HBN : Hid _ := hbn
      have HRW : Hid _ := hRw
      have HGA : Hid _ := hgA
      clear hb2 hb4 hb5 hb6 howr hgr hE1 hend hbn hRw hgA hoA hoA'
      simp only [bd0] at HEND HBN HRW HGA
      go_wp2_with fail
      refine Calls.mono HEND.out ?_
      rintro e w5 ⟨rfl, hg5⟩
      have hB5 := HBN.out.later hg5 (by simp)
      have hR5 := HRW.out.later hg5
      have hg6 := grown_trans HGA.out hg5
      have hE5 := HE.out.later hg6 (by simp)
      obtain ⟨_, _, c20, c21, c22, c23, c27, c28, c29⟩ := hB5
      have HR5 : Hid _ := hR5
      have HE5 : Hid _ := hE5
      have HG6 : Hid _ := hg6
      have ly5 := HE5.out.y (k - 1) (by omega)
      have lz5 := HE5.out.z (k - 1) (by omega)
      rw [HYL.out] at ly5
      rw [HZL.out] at lz5
      clear HEND HBN HRW HGA hg5 hR5 hE5 hg6
      go_wp2_with fail
      go_loopw [18] (fun i wr2 => ∃ j : Nat, j ≤ k ∧ i = .int .i64 (j : Int) ∧ w5.grownBy wr2 none) (fun i _ => k - (intOf i).toNat)
      case atStart => exact ⟨0, Nat.zero_le _, rfl, grown_refl _ _⟩
      case round =>
        obtain ⟨j, hj, rfl, hgj⟩ := hrel
        by_cases hjk : j < k
        · have hRj := HR5.out.later hgj
          have hl3 := tri_len X Y Z k
          have t := tri_getD X Y Z j k hjk
          have q20 := hgj.cell c20 (by simp)
          have hc1 := get_any _ g (12 * k) cap (3 * j) _ hRj (by omega) (3 * (j : Int)) (by omega)
          rw [t.1] at hc1
          have HC1 : Hid _ := hc1
          have HRj : Hid _ := hRj
          have HT : Hid _ := t
          have HGJ : Hid _ := hgj
          clear hc1 hRj t hgj hl3
          go_wp2_with fail
          refine Calls.mono HC1.out ?_
          rintro e w6 ⟨rfl, hg6⟩
          have hl3 := tri_len X Y Z k
          have r20 := hg6.cell q20 (by simp)
          have hRj2 := HRj.out.later hg6
          have hc2 := get_any w6 g (12 * k) cap (3 * j + 1) _ hRj2 (by omega) (3 * (j : Int) + 1) (by omega)
          rw [HT.out.2.1] at hc2
          have HC2 : Hid _ := hc2
          have HRj2 : Hid _ := hRj2
          have HGJ2 : Hid _ := grown_trans HGJ.out hg6
          clear hc2 hRj2 hg6 HC1 HRj HGJ hl3 q20
          go_wp2_with fail
          refine Calls.mono HC2.out ?_
          rintro e w7 ⟨rfl, hg7⟩
          have hl3 := tri_len X Y Z k
          have s20 := hg7.cell r20 (by simp)
          have hRj3 := HRj2.out.later hg7
          have hc3 := get_any w7 g (12 * k) cap (3 * j + 2) _ hRj3 (by omega) (3 * (j : Int) + 2) (by omega)
          rw [HT.out.2.2] at hc3
          have HC3 : Hid _ := hc3
          have HGJ3 : Hid _ := grown_trans HGJ2.out hg7
          clear hc3 hRj3 hg7 HC2 HRj2 HGJ2 hl3 r20
          go_wp2_with fail
          refine Calls.mono HC3.out ?_
          rintro e w8 ⟨rfl, hg8⟩
          have hg9 := grown_trans HGJ3.out hg8
          have hE8 := HE5.out.later hg9 (by simp)
          have x8 := hE8.x j hjk
          have y8 := hE8.y j hjk
          have z8 := hE8.z j hjk
          have HG9 : Hid _ := hg9
          clear HC3 HGJ3 hg8 hg9 hE8 HT s20
          generalize X j = xj at *
          generalize Y j = yj at *
          generalize Z j = zj at *
          go_wp2
          go_roundw
          case rel => exact ⟨j + 1, by omega, by go_num, HG9.out⟩
          case measure => simp [intOf]; omega
        · obtain rfl : j = k := by omega
          have HG7 : Hid _ := grown_trans HG6.out hgj
          clear hgj
          go_wp2
          go_ret
          exact ⟨rfl, grown_below HG7.out (Nat.le_refl _)⟩

end Go.Proofs.Ybulksxo.Bx
