import Derived.Test.YbulksxoFmtState
namespace Go.Proofs.YbulksxoFmt.Bx
open Go Go.RowKit

theorem upd_self (X : Nat → Bxd) (o : Nat) : upd X o (X o) = X := by
  funext p
  unfold upd
  split
  · rename_i e; rw [e]
  · rfl

theorem run_bs {w : World} {B b : Nat} {O : List Nat} {X : Nat → Bxd} {f : Nat → Value} (h : Bs w B b O X f) (o : Nat) (ho : o ∈ O) (h2 : o = 4 ∨ o = 8) (v : Nat) (hv : v < 4294967296) (hN : (X o).N ≤ 5000) :
    Calls Ybaf.prog 9 #[.pointer (some ⟨b, o, none⟩), .int .u32 (v : Int)] w fun e w' => e = .returned (.tuple #[]) ∧ ∃ x, Bs w' B b O (upd X o x) f ∧ x.N ≤ (X o).N + 1 ∧ x.hd = (X o).hd ∧ Kp w w' B b := by
  have hb := h.bx o ho
  have hk2 : kOf o = 2 := by rcases h2 with rfl | rfl <;> rfl
  have hh : (X o).hd.length ≤ 100 := by rw [h.hl o ho]; exact Nat.le_trans (hOf_le o) (by omega)
  rw [hk2] at hb
  by_cases h0 : (X o).N = 0
  · have hb0 := hb
    rw [h0] at hb0
    refine (run_first w B b o _ _ v _ _ hb0 h.kt h.fz h.hB hh hv).mono ?_
    rintro e w' ⟨rfl, g', c', hE, hBk, hn⟩
    refine ⟨rfl, ⟨g', c', 1, (X o).hd, (X o).L ++ [1, v]⟩, h.step o ho hBk _ (by rw [hk2]; exact hE) rfl hn, by show 1 ≤ _; omega, rfl, Kp.bk hBk hb⟩
  · by_cases h1 : (X o).L.getD (2 * (X o).N - 1) 0 = v
    · refine (run_more w B b o _ _ _ v _ _ hb h.kt (by omega) (by omega) hh hb.cap h1).mono ?_
      rintro e w' ⟨rfl, L', hE, hg⟩
      have hne : some b ≠ some (X o).g := h.kt.ne hb.row
      have hBk : Bk w w' b o (some (X o).g) := (Bk.refl w b o (some (X o).g)).grown hg h.kt.lt hne (fun j e => Or.inr e)
      refine ⟨rfl, ⟨(X o).g, (X o).c, (X o).N, (X o).hd, L'⟩, h.step o ho hBk _ (by rw [hk2]; exact hE) rfl (Or.inl rfl), by show (X o).N ≤ _; omega, rfl, Kp.bk hBk hb⟩
    · refine (run_new w B b o _ _ _ v _ _ hb h.kt h.fz h.hB (by omega) (by omega) hh hb.cap hv h1).mono ?_
      rintro e w' ⟨rfl, g', c', hE, hBk, hn⟩
      exact ⟨rfl, ⟨g', c', (X o).N + 1, (X o).hd, (X o).L ++ [1, v]⟩, h.step o ho hBk _ (by rw [hk2]; exact hE) rfl hn, Nat.le_refl _, rfl, Kp.bk hBk hb⟩

theorem size_bs {w w' : World} {B b s : Nat} {O : List Nat} {X : Nat → Bxd} {f : Nat → Value} (h : Bs w B b O X f) (ho : 16 ∈ O) (v : Nat) (hv : v < 4294967296) (hN : (X 16).N ≤ 5000) (hg : w.grownBy w' none) (hs : w.heap.size ≤ s) (hc : w'.cell? ⟨s, 0, none⟩ = some (.int .u32 (v : Int))) :
    Calls Ybaf.prog 10 #[.pointer (some ⟨b, 16, none⟩), .slice (some ⟨s, 0, none⟩) 1 1] w' fun e w'' => e = .returned (.tuple #[]) ∧ ∃ x, Bs w'' B b O (upd X 16 x) f ∧ x.N = (X 16).N + 1 ∧ x.hd = (X 16).hd ∧ Kp w w'' B b := by
  have hb := h.bx 16 ho
  have hh : (X 16).hd.length ≤ 100 := by rw [h.hl 16 ho]; exact Nat.le_trans (hOf_le 16) (by omega)
  refine (add_box w w' B b 16 1 _ _ _ s _ _ [v] hb h.kt h.fz h.hB (by omega) hh (by omega) (by omega) rfl (by intro u hu; simp at hu; omega) hg hs (fun j hj => by
      match j, hj with
      | 0, _ => exact hc)).mono ?_
  rintro e w'' ⟨rfl, g', c', hE, hBk, hn⟩
  exact ⟨rfl, ⟨g', c', (X 16).N + 1, (X 16).hd, (X 16).L ++ [v]⟩, h.step 16 ho hBk _ hE rfl hn, rfl, rfl, Kp.bk hBk hb⟩

/-- The chunk table behind endChunk. -/
def closeL (L : List Nat) (n at' clen cent : Nat) : List Nat :=
  if at' = 0 ∨ (0 < n ∧ L.getD (3 * (n - 1) + 1) 0 = clen ∧ L.getD (3 * (n - 1) + 2) 0 = cent) then L else L ++ [at', clen, cent]

theorem end_bs {w : World} {B b : Nat} {O : List Nat} {X : Nat → Bxd} {f : Nat → Value} (h : Bs w B b O X f) (ho : 20 ∈ O) (ho4 : 24 ∈ O) (clen cent : Nat) (f28 : f 28 = .int .u32 (clen : Int)) (f29 : f 29 = .int .u32 (cent : Int)) (hc : clen < 4294967296) (he : cent < 4294967296) (hN : (X 20).N ≤ 5000) (hA : (X 24).N ≤ 5000) :
    Calls Ybaf.prog 5 #[.pointer (some ⟨b, 0, none⟩)] w fun e w' => e = .returned (.tuple #[]) ∧ ∃ x, Bs w' B b O (upd X 20 x) f ∧ x.N ≤ (X 20).N + 1 ∧ x.hd = (X 20).hd ∧ x.L = closeL (X 20).L (X 20).N (X 24).N clen cent ∧ Kp w w' B b := by
  have hb := h.bx 20 ho
  have h4 := h.bx 24 ho4
  have hlen : (X 20).hd.length = 16 := h.hl 20 ho
  have hll : (X 20).L.length = 3 * (X 20).N := hb.len
  have hbd : Bd w b (.slice (some ⟨(X 20).g, 0, none⟩) ((X 20).hd.length + 4 * (X 20).L.length) (X 20).c) 16 (X 20).N (X 24).N clen cent := ⟨h.kt, h.fz, hb.e0, h.e1 20 ho, h.e2 20 ho, hb.e3, h4.e3, by rw [← f28]; exact h.sc 28 (by unfold Sp; omega), by rw [← f29]; exact h.sc 29 (by unfold Sp; omega)⟩
  have hn : (X 20).hd.length + 4 * (X 20).L.length = 16 + 12 * (X 20).N := by omega
  have hrow := hb.row
  rw [hn] at hrow hbd
  unfold closeL
  by_cases hs : (X 24).N = 0 ∨ (0 < (X 20).N ∧ (X 20).L.getD (3 * ((X 20).N - 1) + 1) 0 = clen ∧ (X 20).L.getD (3 * ((X 20).N - 1) + 2) 0 = cent)
  · rw [if_pos hs]
    refine (end_skip w B b 16 _ _ clen cent _ _ _ hbd hrow hlen (by omega) hll (by omega) hb.bd hs).mono ?_
    rintro e w' ⟨rfl, hg⟩
    exact ⟨rfl, X 20, by rw [upd_self]; exact h.grown hg, by omega, rfl, rfl, Kp.grown B b hg⟩
  · rw [if_neg hs]
    refine (end_add w B b 16 _ _ clen cent _ _ _ hbd hrow hlen (by omega) hll (by omega) hb.bd h.hB (by omega) hc he (fun e => hs (Or.inl e)) (fun h0 h1 => hs (Or.inr ⟨h0, h1⟩))).mono ?_
    rintro e w' ⟨rfl, buf', hbd', ho', hBk, hnew⟩
    rcases ho'.2 with ⟨rfl, h1⟩ | ⟨g', cap, cur, rfl, _⟩
    · omega
    · have hl2 : (X 20).hd.length + 4 * ((X 20).L ++ [(X 24).N, clen, cent]).length = 16 + 12 * ((X 20).N + 1) := by simp only [List.length_append, List.length_cons, List.length_nil]; omega
      have hbd2 : ∀ v ∈ (X 20).L ++ [(X 24).N, clen, cent], v < 4294967296 := by
        intro v hv
        rcases List.mem_append.1 hv with h2 | h2
        · exact hb.bd v h2
        · simp at h2
          omega
      refine ⟨rfl, ⟨g', cap, (X 20).N + 1, (X 20).hd, (X 20).L ++ [(X 24).N, clen, cent]⟩, h.step 20 ho hBk _ ⟨?_, hbd'.c23, ?_, ?_, hbd2⟩ rfl ?_, Nat.le_refl _, rfl, rfl, Kp.bk hBk hb⟩
      · show w'.cell? _ = some (.slice _ ((X 20).hd.length + 4 * ((X 20).L ++ [(X 24).N, clen, cent]).length) cap)
        rw [hl2]; exact hbd'.c20
      · show w'.ownsRow B 5 1 (.slice _ ((X 20).hd.length + 4 * ((X 20).L ++ [(X 24).N, clen, cent]).length) cap) ((X 20).hd.length + 4 * ((X 20).L ++ [(X 24).N, clen, cent]).length) _
        rw [hl2]; exact ho'
      · show ((X 20).L ++ [(X 24).N, clen, cent]).length = 3 * ((X 20).N + 1)
        simp only [List.length_append, List.length_cons, List.length_nil]; omega
      · rcases hnew g' rfl with h2 | h2
        · left; simp [Value.ownBlock] at h2; exact h2.symm
        · exact Or.inr h2

/-- The head of a chunk offset box: its type is stco. -/
def Stco (hd : List Value) : Prop := hd[4]? = some (.int .u8 115) ∧ hd[5]? = some (.int .u8 116) ∧ hd[6]? = some (.int .u8 99) ∧ hd[7]? = some (.int .u8 111)
/-- The variable typeStco. -/
def Gl (w : World) (g : Nat) (x0 x1 x2 x3 : Int) : Prop := w.cell? ⟨g, 0, none⟩ = some (.int .u8 x0) ∧ w.cell? ⟨g, 1, none⟩ = some (.int .u8 x1) ∧ w.cell? ⟨g, 2, none⟩ = some (.int .u8 x2) ∧ w.cell? ⟨g, 3, none⟩ = some (.int .u8 x3)
theorem Gl.kept {w w' : World} {B b g : Nat} {x0 x1 x2 x3 : Int} (h : Gl w g x0 x1 x2 x3) (k : Kp w w' B b) (hg : g < B) (hb : B ≤ b) : Gl w' g x0 x1 x2 x3 :=
  ⟨k.cell h.1 (by show g ≠ b; omega) (Or.inl hg), k.cell h.2.1 (by show g ≠ b; omega) (Or.inl hg), k.cell h.2.2.1 (by show g ≠ b; omega) (Or.inl hg), k.cell h.2.2.2 (by show g ≠ b; omega) (Or.inl hg)⟩

theorem chunk_bs {w : World} {B b : Nat} {O : List Nat} {X : Nat → Bxd} {f : Nat → Value} (h : Bs w B b O X f) (ho : 24 ∈ O) (x : Nat) (hx : x < 4294967296) (hN : (X 24).N ≤ 5000) (ht : Stco (X 24).hd) (hG : Gl w 4 115 116 99 111) :
    Calls Ybaf.prog 11 #[.pointer (some ⟨b, 0, none⟩), .int .i64 (x : Int)] w fun e w' => e = .returned (.tuple #[]) ∧ ∃ x, Bs w' B b O (upd X 24 x) f ∧ x.N = (X 24).N + 1 ∧ x.hd = (X 24).hd ∧ Kp w w' B b := by
  have hb := h.bx 24 ho
  refine (chunk_any w B b _ _ _ x _ _ hb h.kt h.fz h.hB (by omega) (h.hl 24 ho) hx ht.1 ht.2.1 ht.2.2.1 ht.2.2.2 hG.1 hG.2.1 hG.2.2.1 hG.2.2.2).mono ?_
  rintro e w'' ⟨rfl, g', c', hE, hBk, hn⟩
  exact ⟨rfl, ⟨g', c', (X 24).N + 1, (X 24).hd, (X 24).L ++ [x]⟩, h.step 24 ho hBk _ hE rfl hn, rfl, rfl, Kp.bk hBk hb⟩

set_option maxHeartbeats 1000000 in
/-- endChunk of an empty builder. -/
theorem end_zero (w : World) (b : Nat) (c23 : w.cell? ⟨b, 23, none⟩ = some (.int .u32 0)) (c27 : w.cell? ⟨b, 27, none⟩ = some (.int .u32 0)) :
    Calls Ybaf.prog 5 #[.pointer (some ⟨b, 0, none⟩)] w fun e w' => e = .returned (.tuple #[]) ∧ w.grownBy w' none := by
  go_enter Ybaf.func5, Ybaf.ntmps5
  go_wp2
  go_quiet (fail)
  go_wp2
  refine bodyPost_ret (results_none rfl _ _ _) rfl ?_
  exact ⟨rfl, grown_drewN (grown_refl _ _) _⟩

end Go.Proofs.YbulksxoFmt.Bx
