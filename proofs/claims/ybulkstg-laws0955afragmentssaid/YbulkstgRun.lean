import Derived.Test.YbulkstgModel
import Derived.Deep.RegionWith
namespace Go.Proofs.Ybulkstg.Buf
open Go Go.RowKit

theorem Sl.ofOwn {w : World} {base : Nat} {v : Value} {xs : List Int} (h : w.ownsRow base 5 1 v xs.length (xs.map (Value.int .u8))) : ∃ ao c, v = .slice ao xs.length c ∧ Sl w ao c xs := by
  rcases h.2 with ⟨h1, h2⟩ | ⟨g, cap, cur, rfl, hb, hg, hle, hmax, hcs, htk⟩
  · have hx : xs = [] := List.eq_nil_of_length_eq_zero h2
    subst hx
    exact ⟨none, 0, h1, by simp, by simp [maxLen], fun _ => rfl, fun a ha => by cases ha⟩
  · exact ⟨_, cap, rfl, hle, hmax, fun ha => (by cases ha), fun a ha j u hj => by
      simp at ha; subst ha
      exact h.cells (g := g) rfl j u hj⟩

theorem Sl.at {W : World} {ao : Option Addr} {c : Nat} {xs : List Int} (h : Sl W ao c xs) (hp : 0 < xs.length) :
    ∃ b off, ao = some ⟨b, off, none⟩ ∧ ∀ j, j < xs.length → W.cell? ⟨b, off + j, none⟩ = some (.int .u8 (xs.getD j 0)) := by
  cases ao with
  | none => have := h.nil rfl; have := h.le; omega
  | some a =>
    have hc : ∀ j, j < xs.length → W.cell? (a.add j) = some (.int .u8 (xs.getD j 0)) := fun j hj => h.cells a rfl j _ (by
      rw [List.getElem?_map, List.getD, List.getElem?_eq_getElem hj]; rfl)
    obtain ⟨b, off, spot⟩ := a
    have hspot : spot = none := by simpa [Addr.add] using World.cell?_spot (hc 0 hp)
    subst hspot
    exact ⟨b, off, rfl, fun j hj => by rw [← Go.WideShapes.add_plain]; exact hc j hj⟩

set_option maxHeartbeats 1000000 in
theorem equal_any (w : World) (ao1 ao2 : Option Addr) (c1 c2 n : Nat) (xs : List Int) (hn : xs.length = n) (h1 : Sl w ao1 c1 xs) (h2 : Sl w ao2 c2 xs) :
    Calls Yba.prog 16 #[.slice ao1 n c1, .slice ao2 n c2] w fun e w' => e = .returned (.bool true) ∧ ∃ m, w' = w.drewN m := by
  have hmx := h1.max
  have hle := h1.le
  rw [hn] at hle
  unfold maxLen at hmx
  have HN : Hid _ := hn
  clear hn
  go_enter Yba.func16, Yba.ntmps16
  go_wp2
  go_loopw [13] (fun i wr => ∃ k m : Nat, k ≤ n ∧ i = .int .i64 (k : Int) ∧ wr = w.drewN m) (fun i _ => n - (intOf i).toNat)
  case atStart => exact ⟨0, 0, Nat.zero_le _, rfl, rfl⟩
  case round =>
    obtain ⟨k, m, hk, rfl, rfl⟩ := hrel
    by_cases hlt : k < n
    · obtain ⟨b1, o1, hao1, hc1⟩ := h1.at (by rw [HN.out]; omega)
      obtain ⟨b2, o2, hao2, hc2⟩ := h2.at (by rw [HN.out]; omega)
      subst hao1 hao2
      have q1 := hc1 k (by rw [HN.out]; omega)
      have q2 := hc2 k (by rw [HN.out]; omega)
      clear hc1 hc2
      generalize xs.getD k 0 = x at *
      go_wp2
      go_quiet (fail)
      go_wp2
      go_roundw
      case rel => exact ⟨k + 1, _, by omega, by go_num, rfl⟩
      case measure => simp [intOf]; omega
    · go_wp2
      go_ret
      exact ⟨rfl, m, rfl⟩
theorem enc_len (f : Nat) : ∀ xs : List Int, (encF f xs).length ≤ xs.length + 2 * f := by
  induction f with
  | zero => intro xs; simp [encF]
  | succ f ih =>
    intro xs
    simp only [encF]
    split
    · simp; omega
    · split
      · simp; omega
      · have := ih (xs.drop (min (xs.length / 16384) 4 * 16384))
        simp at *
        omega

theorem Wr.drewN {W : World} {B : Nat} {v : Value} {w : World} {l : List Int} {p : Int} (h : Wr W B v w l p) (n : Nat) : Wr W B v (w.drewN n) l p :=
  ⟨h.hB, h.size, h.buf, h.pos, h.f0, h.f1, h.own, ⟨h.below.os, h.below.tape, h.below.output, h.below.size, h.below.block⟩⟩

/-- The empty Writer. -/
theorem Wr.start (w : World) : Wr w w.heap.size (.slice none 0 0) (w.alloc (.cells #[.slice none 0 0, .int .i64 0] 41)) [] 0 := by
  refine ⟨rfl, by simp, World.cell?_alloc_at _ _ _ _ rfl, World.cell?_alloc_at _ _ _ _ rfl, ?_, ?_, World.ownsRow_nil _ _ _ _, (Below.refl _ _).alloc (Nat.le_refl _) _⟩
  · rw [frozen?_alloc_cells]; simp [World.frozen?]
  · rw [frozen?_alloc_cells]; simp [World.frozen?]

set_option maxRecDepth 100000 in
set_option maxHeartbeats 2000000 in
theorem run_any (w : World) (ao : Option Addr) (n c : Nat) (bs : List Bool) (aox : Option Addr) (nx cx : Nat) (xs : List Int) (hn : bs.length = n) (hn1 : n ≤ 64) (hs : Sb w ao c bs) (hnx : xs.length = nx) (hnx1 : nx ≤ 131072) (hx : Sl w aox cx xs) :
    Calls Yba.prog 7 #[.slice ao n c, .slice aox nx cx] w fun e w' => e = .returned (.bool true) ∧ Below w.heap.size w w' := by
  have HN : Hid _ := hn
  have HNX : Hid _ := hnx
  clear hn hnx
  go_enter Yba.func7, Yba.ntmps7
  go_wp2
  go_loopw [10] (fun i wr => ∃ k : Nat, k ≤ n ∧ i = .int .i64 (k : Int) ∧ ∃ v, Wr w w.heap.size v wr (wb bs k) (k : Int)) (fun i _ => n - (intOf i).toNat)
  case atStart => exact ⟨0, Nat.zero_le _, rfl, _, Wr.start w⟩
  case round =>
    obtain ⟨k, hk, rfl, v, hw⟩ := hrel
    by_cases hlt : k < n
    · obtain ⟨b, off, hao, hcells⟩ := (hs.later hw.below).at (by rw [HN.out]; omega)
      subst hao
      have hck := hcells k (by rw [HN.out]; omega)
      clear hcells
      go_wp2_with fail
      refine (bit_any w w.heap.size v _ (wb bs k) k (bs.getD k false) hw (by omega) (wb_len bs k)).mono ?_
      rintro e w1 ⟨rfl, v1, hw1⟩
      go_wp2
      go_roundw
      case rel => exact ⟨k + 1, by omega, by go_num, v1, by simpa [wb] using hw1⟩
      case measure => simp [intOf]; omega
    · obtain rfl : k = n := by omega
      have hwl := wb_len bs k
      go_wp2_with fail
      refine (open_any w w.heap.size v _ (wb bs k) (k : Int) aox cx nx xs hw (by omega) (by rw [hwl]; omega) (by omega) HNX.out hnx1 hx).mono ?_
      rintro e w1 ⟨rfl, v1, hw1⟩
      clear hw hwl
      have hM : ∀ W', Below w1.heap.size w1 W' → Calls Yba.prog 17 #[.slice ao k c, .slice aox nx cx] W' fun e w' => ∃ ao3 c3, e = .returned (.slice ao3 (wb bs k ++ encF 9 xs).length c3) ∧
          w'.cell? ⟨w.heap.size, 0, none⟩ = some v1 ∧ Sl w' ao3 c3 (wb bs k ++ encF 9 xs) ∧ Below w1.heap.size w1 w' := by
        intro W' hb
        have hb0 := hw1.below.trans (hb.mono (Nat.le_of_lt hw1.size))
        refine (model_any W' ao k c bs aox nx cx xs HN.out hn1 (hs.later hb0) HNX.out hnx1 (hx.later hb0)).mono ?_
        rintro e w' ⟨v', rfl, hown, hbw⟩
        obtain ⟨ao3, c3, rfl, hsl⟩ := Sl.ofOwn hown
        have hb1 := hb.trans (hbw.mono hb.size)
        exact ⟨ao3, c3, rfl, cell_later hb1 hw1.buf, hsl, hb1⟩
      obtain ⟨ao1, c1, rfl, hsl1⟩ := Sl.ofOwn hw1.own
      have hcb := hw1.buf
      have hcp := hw1.pos
      have HT : Hid (∀ W', Below w1.heap.size w1 W' → Below w.heap.size w W') := fun W' hb => hw1.below.trans (hb.mono (Nat.le_of_lt hw1.size))
      have hTl : (wb bs k ++ encF 9 xs).length ≤ 200000 := by
        have h1 := enc_len 9 xs
        have h2 := wb_len bs k
        rw [HNX.out] at h1
        rw [List.length_append]
        omega
      generalize wb bs k ++ encF 9 xs = T at *
      have HM : Hid _ := hM
      have hE := fun W' ao3 c3 (hb : Below w1.heap.size w1 W') (h3 : Sl W' ao3 c3 T) => equal_any W' ao1 ao3 c1 c3 T.length T rfl (hsl1.later hb) h3
      have HE : Hid _ := hE
      clear hM hE
      go_wp2
      go_quiet ((go_at_call 15; exact Calls.quiet_of_same (pos_any w w.heap.size _ _ T _ (by first | exact hw1 | exact hw1.drewN _ | exact hw1.drew))))
      go_wp2
      go_region_with (first
        | (go_at_call 17; refine (HM.out _ (by first | exact (below_drewN (Below.refl _ _) _).drew | exact below_drewN (Below.refl _ _) _)).mono ?_; rintro e w3 ⟨ao3, c3, rfl, hcb3, hsl3, hb3⟩)
        | (go_at_call 16; refine (HE.out _ _ _ hb3 hsl3).mono ?_; rintro e w4 ⟨rfl, m4, rfl⟩))
      all_goals
        go_wp2
        go_ret
        exact ⟨rfl, below_drewN (HT.out _ hb3) _⟩
end Go.Proofs.Ybulkstg.Buf
