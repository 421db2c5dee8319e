import Derived.Test.YbulksxoFmtGood
import Derived.Test.YbulksxoFmtPlusB
import Derived.Test.YbulksxoFmtPlusC
import Derived.Test.YbulksxoFmtPlusD
namespace Go.Proofs.YbulksxoFmt.Bx
open Go Go.RowKit

/-- The builder behind i samples, the last of which ends at pos. -/
def Ls (w : World) (B b i pos : Nat) : Prop :=
  (i = 0 ∧ ∃ X f, Bs w B b [] X f ∧ Sv f 0 0 0 0 ∧ w.cell? ⟨b, 23, none⟩ = some (.int .u32 0) ∧ w.cell? ⟨b, 27, none⟩ = some (.int .u32 0)) ∨
  (0 < i ∧ ∃ X f clen cent Kc Sc, Bs w B b O5 X f ∧ Sv f i clen cent pos ∧ (X 24).N = Kc + 1 ∧ i = Sc + clen ∧ Good (X 20).L (X 20).N Kc Sc ∧ Stco (X 24).hd ∧ (∀ o ∈ O5, (X o).N ≤ i) ∧ cent ≤ 2)

theorem Ls.grown {w w' : World} {B b i pos : Nat} (h : Ls w B b i pos) (hg : w.grownBy w' none) : Ls w' B b i pos := by
  rcases h with ⟨h0, X, f, hB, hv, c23, c27⟩ | ⟨h0, X, f, clen, cent, Kc, Sc, hB, rest⟩
  · exact Or.inl ⟨h0, X, f, hB.grown hg, hv, hg.cell c23 (by simp), hg.cell c27 (by simp)⟩
  · exact Or.inr ⟨h0, X, f, clen, cent, Kc, Sc, hB.grown hg, rest⟩
theorem Ls.hB {w : World} {B b i pos : Nat} (h : Ls w B b i pos) : B ≤ w.heap.size ∧ B ≤ b ∧ Kt w b := by
  rcases h with ⟨h0, X, f, hB, _⟩ | ⟨h0, X, f, clen, cent, Kc, Sc, hB, _⟩
  · exact ⟨hB.hB, hB.bB, hB.kt⟩
  · exact ⟨hB.hB, hB.bB, hB.kt⟩

/-- The variables that Add reads. -/
structure Gls (w : World) : Prop where
  g0 : Gl w 0 115 116 116 115
  g1 : Gl w 1 99 116 116 115
  g2 : Gl w 2 115 116 115 122
  g3 : Gl w 3 115 116 115 99
  g4 : Gl w 4 115 116 99 111
theorem Gls.kept {w w' : World} {B b : Nat} (h : Gls w) (k : Kp w w' B b) (hB : 4 < B) (hb : B ≤ b) : Gls w' :=
  ⟨h.g0.kept k (by omega) hb, h.g1.kept k (by omega) hb, h.g2.kept k (by omega) hb, h.g3.kept k (by omega) hb, h.g4.kept k (by omega) hb⟩

theorem goodN {w : World} {B b : Nat} {O : List Nat} {X : Nat → Bxd} {f : Nat → Value} (h : Bs w B b O X f) (ho : 20 ∈ O) {L : List Nat} (hL : (X 20).L = L) {m Kc Sc : Nat} (hg : Good L m Kc Sc) : Good (X 20).L (X 20).N Kc Sc := by
  have h1 : (X 20).L.length = 3 * (X 20).N := (h.bx 20 ho).len
  have h2 := hg.len
  rw [← hL] at h2 hg
  have : m = (X 20).N := by omega
  rw [← this]
  exact hg

/-- Add -/
theorem plus_any (w : World) (B b i pos pos' size ent : Nat) (h : Ls w B b i pos) (hpp : pos' = pos ∨ pos' = pos + 7) (hi : i ≤ 1500) (hp : pos' ≤ 1000000) (hz : size ≤ 255) (he : ent ≤ 2) (hG : Gls w) (h4 : 4 < B) :
    Calls Ybaf.prog 4 #[.pointer (some ⟨b, 0, none⟩), .agg #[.int .i64 (i : Int), .int .i64 (i : Int), .int .u32 1, .int .u32 (size : Int), .int .i64 (pos' : Int), .bool true, .int .u32 (ent : Int)]] w fun e w' => e = .returned .nilIface ∧ Ls w' B b (i + 1) (pos' + size) ∧ Kp w w' B b := by
  rcases h with ⟨h0, X, f, hB, hv, _, _⟩ | ⟨h0, X, f, clen, cent, Kc, Sc, hB, hv, hK, hS, hgd, ht, hN, hc2⟩
  · subst h0
    refine (plus_first w B b 0 0 0 0 size pos' ent (max ent 1) X f hB hv rfl rfl rfl hp hz he rfl h4 hG.g0 hG.g1 hG.g2 hG.g3 hG.g4).mono ?_
    rintro e w' ⟨rfl, X', f', hB', hv', hL', hN', ht', hn', hKp⟩
    refine ⟨rfl, Or.inr ⟨by omega, X', f', 1, max ent 1, 0, 0, hB', hv', hN', rfl, goodN hB' (by decide) hL' Good.empty, ht', fun o ho => ?_, by omega⟩, hKp⟩
    have := hn' o ho
    omega
  · have hN2 : ∀ o ∈ O5, (X o).N ≤ 2000 := fun o ho => by have := hN o ho; omega
    by_cases hpe : pos' = pos
    · subst hpe
      by_cases hce : max ent 1 = cent
      · refine (plus_on w B b i clen cent size pos' ent X f hB hv h0 (by omega) (by omega) hp hz hN2 he hce).mono ?_
        rintro e w' ⟨rfl, X', f', hB', hv', h20, h24, hn', hKp⟩
        refine ⟨rfl, Or.inr ⟨by omega, X', f', clen + 1, cent, Kc, Sc, hB', hv', by rw [h24]; exact hK, by omega, by rw [h20]; exact hgd, by rw [h24]; exact ht, fun o ho => ?_, hc2⟩, hKp⟩
        have := hn' o ho
        have := hN o ho
        omega
      · refine (plus_entry w B b i clen cent pos' size pos' ent (max ent 1) X f hB hv h0 (by omega) (by omega) hp hz hN2 he rfl (by omega) hG.g4 h4 ht rfl hce).mono ?_
        rintro e w' ⟨rfl, X', f', hB', hv', hL', hN', hd', hn', hKp⟩
        rw [hK] at hL' hN'
        obtain ⟨m', hg'⟩ := hgd.close (clen := clen) (cent := cent)
        refine ⟨rfl, Or.inr ⟨by omega, X', f', 1, max ent 1, Kc + 1, Sc + clen, hB', hv', hN', by omega, goodN hB' (by decide) hL' hg', by rw [hd']; exact ht, fun o ho => ?_, by omega⟩, hKp⟩
        have := hn' o ho
        have := hN o ho
        omega
    · refine (plus_gap w B b i clen cent pos size pos' ent (max ent 1) X f hB hv h0 (by omega) (by omega) hp hz hN2 he rfl (by omega) hG.g4 h4 ht hpe).mono ?_
      rintro e w' ⟨rfl, X', f', hB', hv', hL', hN', hd', hn', hKp⟩
      rw [hK] at hL' hN'
      obtain ⟨m', hg'⟩ := hgd.close (clen := clen) (cent := cent)
      refine ⟨rfl, Or.inr ⟨by omega, X', f', 1, max ent 1, Kc + 1, Sc + clen, hB', hv', hN', by omega, goodN hB' (by decide) hL' hg', by rw [hd']; exact ht, fun o ho => ?_, by omega⟩, hKp⟩
      have := hn' o ho
      have := hN o ho
      omega

/-- The builder when all is closed. -/
theorem end_all (w : World) (B b n pos : Nat) (h : Ls w B b n pos) (hn0 : 0 < n) (hn : n ≤ 1500) :
    Calls Ybaf.prog 5 #[.pointer (some ⟨b, 0, none⟩)] w fun e w' => e = .returned (.tuple #[]) ∧ Kp w w' B b ∧ ∃ X f K, Bs w' B b O5 X f ∧ (X 24).N = K ∧ K ≤ 2000 ∧ 0 < (X 20).N ∧ Good (X 20).L (X 20).N K n := by
  rcases h with ⟨h0, _⟩ | ⟨h0, X, f, clen, cent, Kc, Sc, hB, hv, hK, hS, hgd, ht, hN, hc2⟩
  · omega
  · have n20 := hN 20 (by decide)
    have n24 := hN 24 (by decide)
    refine (end_bs hB (by decide) (by decide) clen cent hv.s28 hv.s29 (by omega) (by omega) (by omega) (by omega)).mono ?_
    rintro e w' ⟨rfl, x, hB', hx1, hx2, hL', hKp⟩
    rw [hK] at hL'
    obtain ⟨m', hg'⟩ := hgd.close (clen := clen) (cent := cent)
    have hg2 : Good (upd X 20 x 20).L (upd X 20 x 20).N (Kc + 1) (Sc + clen) := goodN hB' (by decide) (by rw [upd_same]; exact hL') hg'
    refine ⟨rfl, hKp, upd X 20 x, f, Kc + 1, hB', by rw [upd_other _ _ _ _ (by decide)]; exact hK, by omega, ?_, by rw [hS]; exact hg2⟩
    rcases Nat.eq_zero_or_pos (upd X 20 x 20).N with h1 | h1
    · have := hg2.z h1
      omega
    · exact h1

/-- field -/
theorem fld_bs {w : World} {B b : Nat} {X : Nat → Bxd} {f : Nat → Value} (h : Bs w B b O5 X f) (hN : (X 20).N ≤ 2000) (i j : Nat) (hi : i < (X 20).N) (hj : j < 3) :
    ∀ w', w.grownBy w' none → Calls Ybaf.prog 6 #[.pointer (some ⟨b, 20, none⟩), .int .u32 (i : Int), .int .i64 (j : Int)] w' fun e w'' => e = .returned (.int .u32 ((X 20).L.getD (3 * i + j) 0 : Nat)) ∧ w.grownBy w'' none := fun w' hw => by
  have hb := h.bx 20 (by decide)
  have hlen : (X 20).hd.length = 16 := h.hl 20 (by decide)
  have hll : (X 20).L.length = 3 * (X 20).N := hb.len
  have hn : (X 20).hd.length + 4 * (X 20).L.length = 16 + 12 * (X 20).N := by omega
  have hrow := hb.row
  have e0 := hb.e0
  have hcap := hb.cap
  rw [hn] at hrow e0 hcap
  have hrow' := hrow.kept hw (by right; simp [Value.ownBlock])
  refine (field_any w' b 20 (X 20).g (16 + 12 * (X 20).N) (X 20).c 16 i j (16 + i * 12 + 4 * j) ((X 20).L.getD (3 * i + j) 0) ?_ (by omega) (by omega) (by omega) rfl (by omega) hcap (hw.cell e0 (by simp)) (hw.cell (h.e1 20 (by decide)) (by simp)) (hw.cell (h.e2 20 (by decide)) (by simp)) (fun q hq => ?_)).mono fun e w'' ⟨he, hg⟩ => ⟨he, grown_trans hw hg⟩
  · rw [List.getD, List.getElem?_eq_getElem (by omega)]
    exact hb.bd _ (List.getElem_mem _)
  · rw [hrow'.cellAt _ (by omega), List.getElem?_append_right (by omega), show 16 + i * 12 + 4 * j + q - (X 20).hd.length = 4 * (3 * i + j) + q by omega, bes_get (X 20).L (3 * i + j) q (by omega) hq]

end Go.Proofs.YbulksxoFmt.Bx
