import Derived.Test.YbulksxoFmtLs
namespace Go.Proofs.YbulksxoFmt.Bx
open Go Go.RowKit

/-- The script, as it lies. -/
structure Op3 (w : World) (p q n : Nat) (G : Nat → Bool) (Z E : Nat → Nat) : Prop where
  g : ∀ i, i < n → w.cell? ⟨p, q + i * 3, none⟩ = some (.bool (G i))
  z : ∀ i, i < n → w.cell? ⟨p, q + i * 3 + 1, none⟩ = some (.int .u8 (Z i : Nat))
  e : ∀ i, i < n → w.cell? ⟨p, q + i * 3 + 2, none⟩ = some (.int .u8 (E i : Nat))
  bd : ∀ i, i < n → Z i < 256 ∧ E i < 256

/-- The empty builder. -/
def bd0 : Array Value :=
  #[.int .u32 0, .int .u64 0, .int .i64 0, .int .i64 0, .slice none 0 0, .int .i64 0, .int .i64 0, .int .u32 0, .slice none 0 0, .int .i64 0, .int .i64 0, .int .u32 0, .slice none 0 0, .int .i64 0, .int .i64 0, .int .u32 0, .slice none 0 0, .int .i64 0, .int .i64 0, .int .u32 0, .slice none 0 0, .int .i64 0, .int .i64 0, .int .u32 0, .slice none 0 0, .int .i64 0, .int .i64 0, .int .u32 0, .int .u32 0, .int .u32 0, .int .i64 0]

theorem ls_new (w : World) : Ls (w.alloc (.cells bd0 29)) w.heap.size w.heap.size 0 0 := by
  have hc : ∀ j, (w.alloc (.cells bd0 29)).cell? ⟨w.heap.size, j, none⟩ = bd0[j]? := fun j => World.cell?_alloc_at _ _ _ _ rfl
  refine Or.inl ⟨rfl, fun _ => ⟨0, 0, 0, [], []⟩, fun j => (bd0[j]?).getD (.int .u32 0), ⟨⟨bd0, 29, (0, 0), heap_alloc_new w _, by decide⟩, fun j => World.frozen?_alloc_at _ _ _ _ rfl, by simp, Nat.le_refl _, fun p hp => ?_, fun p hp => ?_, fun o ho => absurd ho (by simp), fun o ho => absurd ho (by simp), fun o ho => absurd ho (by simp), fun o ho => absurd ho (by simp), fun o ho => absurd ho (by simp), fun o ho => absurd ho (by simp)⟩, ⟨rfl, rfl, rfl, ⟨0, rfl, by omega⟩, rfl, rfl, rfl, rfl⟩, hc 23, hc 27⟩
  · rw [hc]
    have hlt : p < bd0.size := by unfold Sp at hp; show p < 31; omega
    rw [Array.getElem?_eq_getElem hlt]
    rfl
  · have hlt : p < bd0.size := hp
    exact ⟨_, (hc p).trans (Array.getElem?_eq_getElem hlt)⟩

theorem Op3.kept {w w' : World} {p q n B b : Nat} {G : Nat → Bool} {Z E : Nat → Nat} (h : Op3 w p q n G Z E) (k : Kp w w' B b) (hp : p < B) (hb : B ≤ b) : Op3 w' p q n G Z E :=
  ⟨fun i hi => k.cell (h.g i hi) (by show p ≠ b; omega) (Or.inl hp), fun i hi => k.cell (h.z i hi) (by show p ≠ b; omega) (Or.inl hp), fun i hi => k.cell (h.e i hi) (by show p ≠ b; omega) (Or.inl hp), h.bd⟩

theorem Kp.below {w w1 w2 : World} {b : Nat} (hg : w.grownBy w1 none) (k : Kp w1 w2 w.heap.size b) (hb : w.heap.size ≤ b) : Below w.heap.size w w2 :=
  ⟨k.os.trans hg.os, k.tape.trans hg.tape, k.output.trans hg.output, Nat.le_trans hg.size k.size, fun j hj => (k.block j (Nat.lt_of_lt_of_le hj hg.size) (by omega) (Or.inl hj)).trans (hg.block j hj (by simp))⟩

set_option maxRecDepth 100000 in
set_option maxHeartbeats 4000000 in
theorem law_some (w : World) (p q n c : Nat) (G : Nat → Bool) (Z E : Nat → Nat) (hn0 : 0 < n) (hn1 : n ≤ 1024) (hO : Op3 w p q n G Z E) (hG : Gls w) :
    Calls Ybaf.prog 3 #[.slice (some ⟨p, q, none⟩) n c] w fun e w' => e = .returned (.bool true) ∧ Below w.heap.size w w' := by
  have hp : p < w.heap.size := World.block_lt_of_cell? w _ (hO.g 0 hn0)
  have h4 : 4 < w.heap.size := World.block_lt_of_cell? w _ hG.g4.1
  have hgB : w.grownBy (w.alloc (.cells bd0 29)) none := World.grownBy_alloc w _ none
  have hL0 := ls_new w
  have HO : Hid _ := hO
  have HG : Hid (Gls (w.alloc (.cells bd0 29))) := hG.kept (Kp.grown w.heap.size w.heap.size hgB) h4 (Nat.le_refl _)
  have HGB : Hid _ := hgB
  have HL0 : Hid (Ls (w.alloc (.cells bd0 29)) w.heap.size w.heap.size 0 0) := hL0
  clear hO hG hgB hL0
  simp only [bd0] at HG HGB HL0
  go_enter Ybaf.func3, Ybaf.ntmps3
  go_wp2_with fail
  have HO0 : Hid _ := HO.out.kept (Kp.grown w.heap.size w.heap.size HGB.out) hp (Nat.le_refl _)
  generalize hW0 : w.alloc (.cells #[.int .u32 0, .int .u64 0, .int .i64 0, .int .i64 0, .slice none 0 0, .int .i64 0, .int .i64 0, .int .u32 0, .slice none 0 0, .int .i64 0, .int .i64 0, .int .u32 0, .slice none 0 0, .int .i64 0, .int .i64 0, .int .u32 0, .slice none 0 0, .int .i64 0, .int .i64 0, .int .u32 0, .slice none 0 0, .int .i64 0, .int .i64 0, .int .u32 0, .slice none 0 0, .int .i64 0, .int .i64 0, .int .u32 0, .int .u32 0, .int .u32 0, .int .i64 0] 29) = W0 at *
  generalize hb : w.heap.size = b at *
  have HB : Hid _ := hb
  clear hW0 HO hb
  go_loopw [4, 19] (fun ps i wr => ∃ k pos : Nat, k ≤ n ∧ i = .int .i64 (k : Int) ∧ ps = .int .i64 (pos : Int) ∧ pos ≤ 262 * k ∧ Ls wr b b k pos ∧ Kp W0 wr b b) (fun _ i _ => n - (intOf i).toNat)
  case atStart => exact ⟨0, 0, Nat.zero_le _, rfl, rfl, by omega, HL0.out, Kp.refl _ _ _⟩
  case round =>
    obtain ⟨k, pos, hk, rfl, rfl, hpos, hLs, hKp⟩ := hrel
    by_cases hlt : k < n
    · have hOr := HO0.out.kept hKp hp (Nat.le_refl _)
      have x := hOr.g k hlt
      have y := hOr.z k hlt
      have z := hOr.e k hlt
      have bk := hOr.bd k hlt
      have hGr := HG.out.kept hKp h4 (Nat.le_refl _)
      have hbk := hLs.hB
      clear hOr
      generalize Z k = zk at *
      generalize E k = ek at *
      have ke : ek % 3 ≤ 2 := by omega
      have hes : ((ek % 3 : Nat) : Int) = (ek : Int) % 3 := by omega
      have HA : Hid (∀ (w' : World) (pos' : Nat), wr.grownBy w' none → (pos' = pos ∨ pos' = pos + 7) → Calls Ybaf.prog 4 #[.pointer (some ⟨b, 0, none⟩), .agg #[.int .i64 (k : Int), .int .i64 (k : Int), .int .u32 1, .int .u32 (zk : Int), .int .i64 (pos' : Int), .bool true, .int .u32 ((ek : Int) % 3)]] w' fun e w'' => e = .returned .nilIface ∧ Ls w'' b b (k + 1) (pos' + zk) ∧ Kp w' w'' b b) := fun w' pos' hw hpp => by
        have := plus_any w' b b k pos pos' zk (ek % 3) (hLs.grown hw) hpp (by omega) (by omega) (by omega) (by omega) (hGr.kept (Kp.grown b b hw) h4 (Nat.le_refl _)) h4
        rwa [hes] at this
      have hsb : wr.heap.size ≠ b := by have := hbk.2.2.lt; omega
      have HKp : Hid _ := hKp
      have HLs : Hid (Ls wr b b k pos) := hLs
      clear hKp hLs hGr hbk hes
      have hkt : ∀ (v : Value) (A : Array Value), Kt ((wr.alloc (.cells #[v, .int .u8 (zk : Int), .int .u8 (ek : Int)] 31)).alloc (.cells A 33)) wr.heap.size := fun v A => ⟨_, 31, (0, 0), (heap_alloc_old _ _ (by simp)).trans (heap_alloc_new wr _), by decide⟩
      have hcl : ∀ (v : Value) (A : Array Value), ((wr.alloc (.cells #[v, .int .u8 (zk : Int), .int .u8 (ek : Int)] 31)).alloc (.cells A 33)).cell? ⟨wr.heap.size, 1, none⟩ = some (.int .u8 (zk : Int)) := fun v A => by simp
      have HKT : Hid _ := hkt
      have HCL : Hid _ := hcl
      clear hkt hcl
      have hwz : IntKind.i64.wrap (zk : Int) = (zk : Int) := by rw [IntKind.wrap_i64]; omega
      cases hgk : G k
      · rw [hgk] at x
        have hw8 : IntKind.i64.wrap ((pos : Int) + (zk : Int)) = (pos : Int) + (zk : Int) := by rw [IntKind.wrap_i64]; omega
        go_wp2_with fail
        refine (HA.out _ pos ?_ (Or.inl rfl)).mono ?_
        · exact grown_alloc (grown_alloc (grown_refl _ _) _) _
        rintro e w5 ⟨rfl, hL5, hK5⟩
        have hK6 := HKp.out.trans ((Kp.grown b b (grown_alloc (grown_alloc (grown_refl wr none) (.cells #[.bool false, .int .u8 (zk : Int), .int .u8 (ek : Int)] 31)) _)).trans hK5)
        have hz5 := hK5.cell (HCL.out _ _) hsb (Or.inr (HKT.out _ _))
        have HL5 : Hid (Ls w5 b b (k + 1) (pos + zk)) := hL5
        clear hL5 hK5
        go_wp2
        go_roundw
        case rel => exact ⟨k + 1, pos + zk, by omega, by go_num, by go_num, by omega, HL5.out, hK6⟩
        case measure => simp [intOf]; omega
      · rw [hgk] at x
        have hw7 : IntKind.i64.wrap ((pos : Int) + 7) = (pos : Int) + 7 := by rw [IntKind.wrap_i64]; omega
        have hw8 : IntKind.i64.wrap ((pos : Int) + 7 + (zk : Int)) = (pos : Int) + 7 + (zk : Int) := by rw [IntKind.wrap_i64]; omega
        go_wp2_with fail
        refine (HA.out _ (pos + 7) ?_ (Or.inr rfl)).mono ?_
        · exact grown_alloc (grown_alloc (grown_refl _ _) _) _
        rintro e w5 ⟨rfl, hL5, hK5⟩
        have hK6 := HKp.out.trans ((Kp.grown b b (grown_alloc (grown_alloc (grown_refl wr none) (.cells #[.bool true, .int .u8 (zk : Int), .int .u8 (ek : Int)] 31)) _)).trans hK5)
        have hz5 := hK5.cell (HCL.out _ _) hsb (Or.inr (HKT.out _ _))
        have HL5 : Hid (Ls w5 b b (k + 1) (pos + 7 + zk)) := hL5
        clear hL5 hK5
        go_wp2
        go_roundw
        case rel => exact ⟨k + 1, pos + 7 + zk, by omega, by go_num, by go_num, by omega, HL5.out, hK6⟩
        case measure => simp [intOf]; omega
    · obtain rfl : k = n := by omega
      clear hlt
      have hend := end_all wr b b k pos hLs hn0 (by omega)
      have HEND : Hid _ := hend
      have HKp : Hid _ := hKp
      clear hend hLs hKp
      go_wp2_with fail
      refine Calls.mono HEND.out ?_
      rintro e w5 ⟨rfl, hK5, X, f, K, hB5, hK, hK2, hm0, hgd⟩
      have hK6 := HKp.out.trans hK5
      have c23 := (hB5.bx 20 (by decide)).e3
      have c27 := (hB5.bx 24 (by decide)).e3
      rw [hK] at c27
      have hfl : ∀ i j : Nat, i < (X 20).N → j < 3 → ∀ w', w5.grownBy w' none → Calls Ybaf.prog 6 #[.pointer (some ⟨b, 20, none⟩), .int .u32 (i : Int), .int .i64 (j : Int)] w' fun e w'' => e = .returned (.int .u32 ((X 20).L.getD (3 * i + j) 0 : Nat)) ∧ w5.grownBy w'' none := fun i j hi hj => fld_bs hB5 (by have := hgd.le; omega) i j hi hj
      have hxb := (hB5.bx 20 (by decide)).bd
      generalize (X 20).N = m at *
      generalize (X 20).L = L at *
      have HXB : Hid (∀ i, L.getD i 0 < 4294967296) := fun i => by
        rw [List.getD]
        cases hq : L[i]? with
        | none => exact (by decide : (0 : Nat) < 4294967296)
        | some u => exact hxb u (List.mem_of_getElem? hq)
      have HF : Hid _ := hfl
      have HGD : Hid _ := hgd
      have HK6 : Hid _ := hK6
      have hmK : m ≤ K := hgd.le
      have HF0 : Hid (∀ w', w5.grownBy w' none → Calls Ybaf.prog 6 #[.pointer (some ⟨b, 20, none⟩), .int .u32 0, .int .i64 0] w' fun e w'' => e = .returned (.int .u32 1) ∧ w5.grownBy w'' none) := fun w' hw => by
        have h1 := HF.out 0 0 hm0 (by decide) w' hw
        have h2 := hgd.one hm0
        simp only [Nat.mul_zero, Nat.add_zero, h2] at h1
        exact h1
      have dm : ((m : Int) == 0) = false := by simp; omega
      have dk : ((k : Int) == 0) = false := by simp; omega
      have dK : decide ((K : Int) < (m : Int)) = false := by simp; omega
      clear hfl hgd hK6 hK5 HEND HKp hB5 hK hxb
      go_wp2_with fail
      refine (HF0.out _ ?_).mono ?_
      · exact grown_refl _ _
      rintro e w6 ⟨rfl, hg6⟩
      go_wp2_with fail
      clear HF0 c23 c27
      go_loopw [10, 11] (fun t i wr2 => ∃ j : Nat, j ≤ m ∧ i = .int .u32 (j : Int) ∧ t = .int .u64 ((tot L m (K + 1) j : Nat) : Int) ∧ w5.grownBy wr2 none) (fun _ i _ => m - (intOf i).toNat)
      case atStart => exact ⟨0, Nat.zero_le _, rfl, rfl, hg6⟩
      case round =>
        obtain ⟨j, hj, rfl, rfl, hgj⟩ := hrel
        by_cases hjm : j < m
        · have F0 : Hid (∀ w', w5.grownBy w' none → Calls Ybaf.prog 6 #[.pointer (some ⟨b, 20, none⟩), .int .u32 (j : Int), .int .i64 0] w' fun e w'' => e = .returned (.int .u32 (L.getD (3 * j) 0 : Nat)) ∧ w5.grownBy w'' none) := fun w' hw => HF.out j 0 hjm (by decide) w' hw
          have F1 : Hid (∀ w', w5.grownBy w' none → Calls Ybaf.prog 6 #[.pointer (some ⟨b, 20, none⟩), .int .u32 (j : Int), .int .i64 1] w' fun e w'' => e = .returned (.int .u32 (L.getD (3 * j + 1) 0 : Nat)) ∧ w5.grownBy w'' none) := fun w' hw => HF.out j 1 hjm (by decide) w' hw
          have F2 : Hid (∀ w', w5.grownBy w' none → Calls Ybaf.prog 6 #[.pointer (some ⟨b, 20, none⟩), .int .u32 (j : Int), .int .i64 2] w' fun e w'' => e = .returned (.int .u32 (L.getD (3 * j + 2) 0 : Nat)) ∧ w5.grownBy w'' none) := fun w' hw => HF.out j 2 hjm (by decide) w' hw
          have htl := tot_le HGD.out (j + 1) hjm
          have hT1 : tot L m (K + 1) (j + 1) = tot L m (K + 1) j + (nx L m (K + 1) j - L.getD (3 * j) 0) * L.getD (3 * j + 1) 0 := rfl
          have w1 : IntKind.u32.wrap ((j : Int) + 1) = (j : Int) + 1 := by rw [IntKind.wrap_u32]; omega
          have wK : IntKind.u64.wrap (K : Int) = (K : Int) := by rw [IntKind.wrap_u64]; omega
          have wK1 : IntKind.u64.wrap ((K : Int) + 1) = (K : Int) + 1 := by rw [IntKind.wrap_u64]; omega
          by_cases hj1 : j + 1 < m
          · have hinc := HGD.out.inc j hj1
            have hdf := HGD.out.diff j hj1
            have hnx : nx L m (K + 1) j = L.getD (3 * (j + 1)) 0 := by simp only [nx]; rw [if_pos hj1]
            rw [hnx] at hT1
            have ej : ((j + 1 : Nat) : Int) = (j : Int) + 1 := by omega
            have N0 : Hid (∀ w', w5.grownBy w' none → Calls Ybaf.prog 6 #[.pointer (some ⟨b, 20, none⟩), .int .u32 ((j : Int) + 1), .int .i64 0] w' fun e w'' => e = .returned (.int .u32 (L.getD (3 * (j + 1)) 0 : Nat)) ∧ w5.grownBy w'' none) := fun w' hw => by
              have := HF.out (j + 1) 0 hj1 (by decide) w' hw
              rw [ej] at this
              exact this
            have N1 : Hid (∀ w', w5.grownBy w' none → Calls Ybaf.prog 6 #[.pointer (some ⟨b, 20, none⟩), .int .u32 ((j : Int) + 1), .int .i64 1] w' fun e w'' => e = .returned (.int .u32 (L.getD (3 * (j + 1) + 1) 0 : Nat)) ∧ w5.grownBy w'' none) := fun w' hw => by
              have := HF.out (j + 1) 1 hj1 (by decide) w' hw
              rw [ej] at this
              exact this
            have N2 : Hid (∀ w', w5.grownBy w' none → Calls Ybaf.prog 6 #[.pointer (some ⟨b, 20, none⟩), .int .u32 ((j : Int) + 1), .int .i64 2] w' fun e w'' => e = .returned (.int .u32 (L.getD (3 * (j + 1) + 2) 0 : Nat)) ∧ w5.grownBy w'' none) := fun w' hw => by
              have := HF.out (j + 1) 2 hj1 (by decide) w' hw
              rw [ej] at this
              exact this
            have hxK : L.getD (3 * (j + 1)) 0 < 4294967296 := HXB.out _
            have hyK : L.getD (3 * j + 1) 0 < 4294967296 := HXB.out _
            have dj : decide ((j : Int) + 1 < (m : Int)) = true := by simp; omega
            generalize L.getD (3 * j) 0 = x at *
            generalize L.getD (3 * j + 1) 0 = y at *
            generalize L.getD (3 * j + 2) 0 = z at *
            generalize L.getD (3 * (j + 1)) 0 = x' at *
            generalize L.getD (3 * (j + 1) + 1) 0 = y' at *
            generalize L.getD (3 * (j + 1) + 2) 0 = z' at *
            generalize tot L m (K + 1) j = T at *
            generalize htt : (x' - x) * y = t at *
            have hprod : ((x' : Int) - (x : Int)) * (y : Int) = (t : Int) := by
              rw [← htt, Int.natCast_mul, Int.ofNat_sub (by omega)]
            have wx : IntKind.u64.wrap (x : Int) = (x : Int) := by rw [IntKind.wrap_u64]; omega
            have wx' : IntKind.u64.wrap (x' : Int) = (x' : Int) := by rw [IntKind.wrap_u64]; omega
            have wy : IntKind.u64.wrap (y : Int) = (y : Int) := by rw [IntKind.wrap_u64]; omega
            have wd : IntKind.u64.wrap ((x' : Int) - (x : Int)) = (x' : Int) - (x : Int) := by rw [IntKind.wrap_u64]; omega
            have wt : IntKind.u64.wrap (t : Int) = (t : Int) := by rw [IntKind.wrap_u64]; omega
            have wT : IntKind.u64.wrap ((T : Int) + (t : Int)) = (T : Int) + (t : Int) := by rw [IntKind.wrap_u64]; omega
            have dxx : decide ((x' : Int) ≤ (x : Int)) = false := by simp; omega
            have HT1 : Hid _ := hT1
            have HTT : Hid _ := htt
            clear hT1 htl hnx htt ej
            by_cases hy : y' = y
            · have hz : ¬ z' = z := fun e => hdf ⟨hy, e⟩
              have byz : ((z' : Int) == (z : Int)) = false := by simp; omega
              subst hy
              clear hdf hz
              go_wp2_with fail
              refine (F0.out _ hgj).mono ?_
              rintro e v0 ⟨rfl, hv0⟩
              go_wp2_with fail
              refine (N0.out _ hv0).mono ?_
              rintro e v1 ⟨rfl, hv1⟩
              go_wp2_with fail
              refine (N1.out _ hv1).mono ?_
              rintro e v2 ⟨rfl, hv2⟩
              go_wp2_with fail
              refine (F1.out _ hv2).mono ?_
              rintro e v3 ⟨rfl, hv3⟩
              go_wp2_with fail
              refine (N2.out _ hv3).mono ?_
              rintro e v4 ⟨rfl, hv4⟩
              go_wp2_with fail
              refine (F2.out _ hv4).mono ?_
              rintro e v5 ⟨rfl, hv5⟩
              go_wp2_with fail
              refine (F1.out _ hv5).mono ?_
              rintro e v6 ⟨rfl, hv6⟩
              go_wp2
              go_roundw
              case rel => exact ⟨j + 1, by omega, by go_num, by rw [HT1.out]; go_num, hv6⟩
              case measure => simp [intOf]; omega
            · have byy : ((y' : Int) == (y : Int)) = false := by simp; omega
              clear hdf hy N2 F2
              go_wp2_with fail
              refine (F0.out _ hgj).mono ?_
              rintro e v0 ⟨rfl, hv0⟩
              go_wp2_with fail
              refine (N0.out _ hv0).mono ?_
              rintro e v1 ⟨rfl, hv1⟩
              go_wp2_with fail
              refine (N1.out _ hv1).mono ?_
              rintro e v2 ⟨rfl, hv2⟩
              go_wp2_with fail
              refine (F1.out _ hv2).mono ?_
              rintro e v3 ⟨rfl, hv3⟩
              go_wp2_with fail
              refine (F1.out _ hv3).mono ?_
              rintro e v6 ⟨rfl, hv6⟩
              go_wp2
              go_roundw
              case rel => exact ⟨j + 1, by omega, by go_num, by rw [HT1.out]; go_num, hv6⟩
              case measure => simp [intOf]; omega
          · have hlast := HGD.out.last hm0
            rw [show m - 1 = j by omega] at hlast
            have hnx : nx L m (K + 1) j = K + 1 := by simp only [nx]; rw [if_neg hj1]
            rw [hnx] at hT1
            have hyK : L.getD (3 * j + 1) 0 < 4294967296 := HXB.out _
            have dj : decide ((j : Int) + 1 < (m : Int)) = false := by simp; omega
            generalize L.getD (3 * j) 0 = x at *
            generalize L.getD (3 * j + 1) 0 = y at *
            generalize tot L m (K + 1) j = T at *
            generalize htt : (K + 1 - x) * y = t at *
            have hprod : ((K : Int) + 1 - (x : Int)) * (y : Int) = (t : Int) := by
              rw [← htt, Int.natCast_mul, Int.ofNat_sub (by omega)]
              rfl
            have wx : IntKind.u64.wrap (x : Int) = (x : Int) := by rw [IntKind.wrap_u64]; omega
            have wy : IntKind.u64.wrap (y : Int) = (y : Int) := by rw [IntKind.wrap_u64]; omega
            have wd : IntKind.u64.wrap ((K : Int) + 1 - (x : Int)) = (K : Int) + 1 - (x : Int) := by rw [IntKind.wrap_u64]; omega
            have wt : IntKind.u64.wrap (t : Int) = (t : Int) := by rw [IntKind.wrap_u64]; omega
            have wT : IntKind.u64.wrap ((T : Int) + (t : Int)) = (T : Int) + (t : Int) := by rw [IntKind.wrap_u64]; omega
            have dxx : decide ((K : Int) + 1 ≤ (x : Int)) = false := by simp; omega
            have HT1 : Hid _ := hT1
            have HTT : Hid _ := htt
            clear hT1 htl hnx htt F2
            go_wp2_with fail
            refine (F0.out _ hgj).mono ?_
            rintro e v0 ⟨rfl, hv0⟩
            go_wp2_with fail
            refine (F1.out _ hv0).mono ?_
            rintro e v6 ⟨rfl, hv6⟩
            go_wp2
            go_roundw
            case rel => exact ⟨j + 1, by omega, by go_num, by rw [HT1.out]; go_num, hv6⟩
            case measure => simp [intOf]; omega
        · obtain rfl : j = m := by omega
          have hsum := HGD.out.sum
          rw [hsum]
          have wk : IntKind.u64.wrap (k : Int) = (k : Int) := by rw [IntKind.wrap_u64]; omega
          clear hjm
          go_wp2
          go_ret
          refine ⟨by simp, ?_⟩
          have := HB.out
          subst this
          exact Kp.below HGB.out (HK6.out.trans (Kp.grown _ _ hgj)) (Nat.le_refl _)

end Go.Proofs.YbulksxoFmt.Bx
