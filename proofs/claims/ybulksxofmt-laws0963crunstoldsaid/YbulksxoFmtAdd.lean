import Derived.Test.YbulksxoFmtField
namespace Go.Proofs.YbulksxoFmt.Bx
open Go Go.RowKit

/-- A block that is no row of bytes. -/
def Kt (w : World) (b : Nat) : Prop := ∃ cs t z, w.heap[b]? = some (.cells cs t z) ∧ t ≠ 5
theorem Kt.set {w : World} {b : Nat} (h : Kt w b) (a : Addr) (v : Value) : Kt (w.setCell a v) b := by
  obtain ⟨cs, t, z, h, ht⟩ := h
  unfold Kt World.setCell
  simp only [Array.getElem?_modify]
  split
  · rename_i e
    subst e
    rw [h]
    exact ⟨_, t, z, rfl, ht⟩
  · exact ⟨cs, t, z, h, ht⟩
theorem Kt.of {w w' : World} {b : Nat} (h : Kt w b) (e : w'.heap[b]? = w.heap[b]?) : Kt w' b := by
  obtain ⟨cs, t, z, h, ht⟩ := h
  exact ⟨cs, t, z, e.trans h, ht⟩
theorem Kt.lt {w : World} {b : Nat} (h : Kt w b) : b < w.heap.size := by
  obtain ⟨cs, t, z, h, ht⟩ := h
  rcases Nat.lt_or_ge b w.heap.size with h1 | h1
  · exact h1
  · rw [Array.getElem?_eq_none h1] at h; cases h
theorem Kt.ne {w : World} {b B n : Nat} {v : Value} {xs : List Value} (h : Kt w b) (ho : w.ownsRow B 5 1 v n xs) : some b ≠ v.ownBlock := by
  obtain ⟨cs, t, z, h, ht⟩ := h
  rcases ho.2 with ⟨rfl, _⟩ | ⟨g, cap, cur, rfl, _, hg, _⟩
  · simp [Value.ownBlock]
  · intro e
    simp [Value.ownBlock] at e
    subst e
    rw [hg] at h
    cases h
    exact ht rfl

/-- What a call of 'add' at the box b, o leaves: the blocks but b and the row; b's other cells. -/
structure Bk (w w' : World) (b o : Nat) (r : Option Nat) : Prop where
  os : w'.os = w.os
  tape : w'.tape = w.tape
  output : w'.output = w.output
  size : w.heap.size ≤ w'.heap.size
  block : ∀ k, k < w.heap.size → k ≠ b → some k ≠ r → w'.heap[k]? = w.heap[k]?
  cells : ∀ p v, p ≠ o → p ≠ o + 3 → w.cell? ⟨b, p, none⟩ = some v → w'.cell? ⟨b, p, none⟩ = some v
  fz : (∀ j, w.frozen? ⟨b, j, none⟩ = false) → ∀ j, w'.frozen? ⟨b, j, none⟩ = false
  kt : Kt w b → Kt w' b
theorem Bk.refl (w : World) (b o : Nat) (r : Option Nat) : Bk w w b o r := ⟨rfl, rfl, rfl, Nat.le_refl _, fun _ _ _ _ => rfl, fun _ _ _ _ h => h, fun h => h, fun h => h⟩
theorem Bk.grown {w w1 w2 : World} {b o : Nat} {r r' : Option Nat} (h : Bk w w1 b o r) (k : w1.grownBy w2 r') (hb : b < w.heap.size) (hne : some b ≠ r') (hr : ∀ j, r' = some j → w.heap.size ≤ j ∨ r = some j) : Bk w w2 b o r :=
  have e := k.block b (Nat.lt_of_lt_of_le hb h.size) hne
  ⟨k.os.trans h.os, k.tape.trans h.tape, k.output.trans h.output, Nat.le_trans h.size k.size, fun j hj h1 h2 => (k.block j (Nat.lt_of_lt_of_le hj h.size) (fun e => by
    rcases hr j e.symm with h3 | h3
    · omega
    · exact h2 h3.symm)).trans (h.block j hj h1 h2), fun p v h1 h2 hc => k.cell (h.cells p v h1 h2 hc) hne, fun hf j => (World.frozen?_of_block e).trans (h.fz hf j), fun hk => (h.kt hk).of e⟩
theorem Bk.set {w w1 : World} {b o : Nat} {r : Option Nat} (h : Bk w w1 b o r) (p : Nat) (v : Value) (hp : p = o ∨ p = o + 3) : Bk w (w1.setCell ⟨b, p, none⟩ v) b o r := by
  refine ⟨h.os, h.tape, h.output, by rw [World.size_setCell]; exact h.size, fun k hk h1 h2 => ?_, fun q u h1 h2 hc => ?_, fun hf j => by rw [World.frozen?_setCell]; exact h.fz hf j, fun hk => (h.kt hk).set _ _⟩
  · rw [Below.heap_setCell _ _ _ _ (by exact h1)]; exact h.block k hk h1 h2
  · exact (World.cell?_setCell_other _ _ _ _ (fun e => by cases e; omega)).trans (h.cells q u h1 h2 hc)
theorem Bk.drew {w w1 : World} {b o : Nat} {r : Option Nat} (h : Bk w w1 b o r) : Bk w w1.drew b o r := ⟨h.os, h.tape, h.output, h.size, h.block, h.cells, h.fz, h.kt⟩

/-- A store beside the row's block. -/
theorem own_set {w : World} {B n : Nat} {sv : Value} {xs : List Value} (h : w.ownsRow B 5 1 sv n xs) (a : Addr) (v : Value) (hne : some a.block ≠ sv.ownBlock) : (w.setCell a v).ownsRow B 5 1 sv n xs := by
  refine ⟨h.1, ?_⟩
  rcases h.2 with h1 | ⟨g, cap, cur, rfl, hb, hg, rest⟩
  · exact Or.inl h1
  · refine Or.inr ⟨g, cap, cur, rfl, hb, ?_, rest⟩
    rw [Below.heap_setCell _ _ _ _ (by intro e; apply hne; simp [Value.ownBlock, e])]
    exact hg

theorem app_at (B n v : Nat) (hv : v < 4294967296) (sv : Value) (xs : List Value) (w : World) (hown : w.ownsRow B 5 1 sv n xs) (hBw : B ≤ w.heap.size) (hlim : n + 4 ≤ 1000000000) :
    Calls Ybaf.prog 16 #[.agg #[], sv, .int .u32 v] w fun e w' => ∃ g c, e = .returned (.slice (some ⟨g, 0, none⟩) (n + 4) c) ∧ w'.ownsRow B 5 1 (.slice (some ⟨g, 0, none⟩) (n + 4) c) (n + 4) (xs ++ be v) ∧ w.grownBy w' sv.ownBlock ∧ (sv.ownBlock = some g ∨ w.heap.size ≤ g) :=
  (app_any B n v hv sv xs w hown hBw hlim).mono fun e w' ⟨v', he, ho, hg, hn⟩ => by
    rcases ho.2 with ⟨rfl, h0⟩ | ⟨g, cap, cur, rfl, _⟩
    · omega
    · exact ⟨g, cap, he, ho, hg, hn g rfl⟩

theorem take_succ_bes (vs : List Nat) (k : Nat) (hk : k < vs.length) (xs : List Value) : xs ++ bes (vs.take k) ++ be (vs.getD k 0) = xs ++ bes (vs.take (k + 1)) := by
  rw [List.take_add_one, List.getElem?_eq_getElem hk, bes_append, List.append_assoc]
  simp [bes_one, List.getD, List.getElem?_eq_getElem hk]

set_option maxHeartbeats 2000000 in
theorem add_any (w : World) (B b o s n N : Nat) (buf : Value) (xs : List Value) (vs : List Nat) (hv : ∀ v ∈ vs, v < 4294967296) (hm : vs.length ≤ 100) (hn : n ≤ 100000000) (hN : N < 4000000000) (hB : B ≤ w.heap.size) (hk : Kt w b) (hsb : s ≠ b) (hsr : some s ≠ buf.ownBlock)
    (hs : ∀ j, j < vs.length → w.cell? ⟨s, j, none⟩ = some (.int .u32 (vs.getD j 0 : Nat)))
    (hf : ∀ j, w.frozen? ⟨b, j, none⟩ = false) (hown : w.ownsRow B 5 1 buf n xs)
    (e0 : w.cell? ⟨b, o, none⟩ = some buf) (e3 : w.cell? ⟨b, o + 3, none⟩ = some (.int .u32 (N : Int))) :
    Calls Ybaf.prog 10 #[.pointer (some ⟨b, o, none⟩), .slice (some ⟨s, 0, none⟩) vs.length vs.length] w fun e w' => e = .returned (.tuple #[]) ∧ ∃ buf', w'.cell? ⟨b, o, none⟩ = some buf' ∧ w'.cell? ⟨b, o + 3, none⟩ = some (.int .u32 ((N + 1 : Nat) : Int)) ∧ w'.ownsRow B 5 1 buf' (n + 4 * vs.length) (xs ++ bes vs) ∧ Bk w w' b o buf.ownBlock ∧ ∀ j, buf'.ownBlock = some j → buf.ownBlock = some j ∨ w.heap.size ≤ j := by
  have hbw := hk.lt
  have HV : Hid _ := hv
  have HS : Hid _ := hs
  generalize hm' : vs.length = m at *
  have HM : Hid _ := hm'
  clear hv hs hm'
  go_enter Ybaf.func10, Ybaf.ntmps10
  go_wp2
  go_loopw [8] (fun i wr => ∃ k : Nat, k ≤ m ∧ i = .int .i64 (k : Int) ∧ ∃ bk, wr.cell? ⟨b, o, none⟩ = some bk ∧ wr.cell? ⟨b, o + 3, none⟩ = some (.int .u32 (N : Int)) ∧ wr.ownsRow B 5 1 bk (n + 4 * k) (xs ++ bes (vs.take k)) ∧ Bk w wr b o buf.ownBlock ∧ (bk = buf ∨ ∀ j, bk.ownBlock = some j → w.heap.size ≤ j ∨ buf.ownBlock = some j)) (fun i _ => m - (intOf i).toNat)
  case atStart => exact ⟨0, Nat.zero_le _, rfl, buf, e0, e3, by simpa [bes] using hown, Bk.refl _ _ _ _, Or.inl rfl⟩
  case round =>
    obtain ⟨k, hkm, rfl, bk, q0, q3, howr, hB1, hbk⟩ := hrel
    by_cases hlt : k < m
    · have hck := HS.out k hlt
      have hvk := HV.out (vs.getD k 0) (by rw [List.getD, List.getElem?_eq_getElem (by rw [HM.out]; exact hlt)]; exact List.getElem_mem _)
      have hck2 : wr.cell? ⟨s, k, none⟩ = some (.int .u32 (vs.getD k 0 : Nat)) := (World.cell?_of_block (hB1.block s (World.block_lt_of_cell? w _ hck) hsb hsr)).trans hck
      have hkr := hB1.kt hk
      have hne := hkr.ne howr
      have hap : ∀ w', wr.grownBy w' none → Calls Ybaf.prog 16 #[.agg #[], bk, .int .u32 (vs.getD k 0 : Nat)] w' fun e w'' => ∃ g c, e = .returned (.slice (some ⟨g, 0, none⟩) (n + 4 * k + 4) c) ∧ w''.ownsRow B 5 1 (.slice (some ⟨g, 0, none⟩) (n + 4 * k + 4) c) (n + 4 * k + 4) (xs ++ bes (vs.take (k + 1))) ∧ wr.grownBy w'' bk.ownBlock ∧ (bk.ownBlock = some g ∨ wr.heap.size ≤ g) := fun w' hw => (app_at B (n + 4 * k) (vs.getD k 0) hvk bk _ w' (howr.kept hw (by by_cases h0 : bk.ownBlock = none <;> simp [h0])) (by have := hw.size; have := hB1.size; omega) (by omega)).mono fun e w'' ⟨g, c, he, h1, h2, h3⟩ => ⟨g, c, he, by rw [take_succ_bes vs k (by rw [HM.out]; exact hlt)] at h1; exact h1, grown_trans (grown_some hw _) h2, h3.imp id (fun h => Nat.le_trans hw.size h)⟩
      have HAP : Hid _ := hap
      have qf := hB1.fz hf (j := o)
      have hbs := Nat.lt_of_lt_of_le hbw hB1.size
      have HW : Hid _ := howr
      have HB1 : Hid _ := hB1
      generalize vs.getD k 0 = vk at *
      clear hap howr hB1 hck hown e0 e3 hf
      go_upto_region 3 with fail
      go_region_with (first
        | (go_at_call 16; refine (HAP.out _ (by first | exact grown_refl _ _ | exact grown_drew (grown_refl _ _))).mono ?_; rintro e w5 ⟨g5, c5, rfl, ho5, hg5, hn5⟩; have x0 := hg5.cell q0 hne; have x1 := (World.frozen?_of_block (hg5.block b hbs hne)).trans qf))
      all_goals
        have hk5 : Kt w5 b := (HB1.out.kt hk).of (hg5.block b hbs hne)
        have hne5 := hk5.ne ho5
        have hr5 : ∀ j, bk.ownBlock = some j → w.heap.size ≤ j ∨ buf.ownBlock = some j := by
          rcases hbk with rfl | h
          · exact fun j hj => Or.inr hj
          · exact h
        have hrel : Hid (∃ bk', (w5.setCell ⟨b, o, none⟩ (.slice (some ⟨g5, 0, none⟩) (n + 4 * k + 4) c5)).cell? ⟨b, o, none⟩ = some bk' ∧ (w5.setCell ⟨b, o, none⟩ (.slice (some ⟨g5, 0, none⟩) (n + 4 * k + 4) c5)).cell? ⟨b, o + 3, none⟩ = some (.int .u32 (N : Int)) ∧ (w5.setCell ⟨b, o, none⟩ (.slice (some ⟨g5, 0, none⟩) (n + 4 * k + 4) c5)).ownsRow B 5 1 bk' (n + 4 * (k + 1)) (xs ++ bes (vs.take (k + 1))) ∧ Bk w (w5.setCell ⟨b, o, none⟩ (.slice (some ⟨g5, 0, none⟩) (n + 4 * k + 4) c5)) b o buf.ownBlock ∧ (bk' = buf ∨ ∀ j, bk'.ownBlock = some j → w.heap.size ≤ j ∨ buf.ownBlock = some j)) := by
          refine ⟨_, World.cell?_setCell_same _ _ _ x0, ?_, own_set ho5 _ _ hne5, (HB1.out.grown hg5 hbw hne hr5).set _ _ (Or.inl rfl), Or.inr fun j hj => ?_⟩
          · exact (World.cell?_setCell_other _ _ _ _ (by simp)).trans (hg5.cell q3 hne)
          · simp [Value.ownBlock] at hj
            subst hj
            rcases hn5 with h | h
            · exact hr5 _ h
            · left; have := HB1.out.size; omega
        go_wp2
        exact ⟨⟨k + 1, by omega, by go_num, hrel.out⟩, by simp [intOf]; omega⟩
    · obtain rfl : k = m := by omega
      have qf := hB1.fz hf (j := o + 3)
      have hne := (hB1.kt hk).ne howr
      have w1 : IntKind.u32.wrap ((N : Int) + 1) = (N : Int) + 1 := by rw [IntKind.wrap_u32]; omega
      go_wp2
      go_end0
      refine ⟨rfl, bk, (World.cell?_setCell_other _ _ _ _ (by simp)).trans q0, ?_, ?_, hB1.set _ _ (Or.inr rfl), ?_⟩
      · rw [World.cell?_setCell_same _ _ _ q3]; simp
      · have h1 := own_set howr ⟨b, o + 3, none⟩ (.int .u32 ((N : Int) + 1)) hne
        rw [List.take_of_length_le (by rw [HM.out]; omega)] at h1
        exact h1
      · rcases hbk with rfl | h
        · exact fun j hj => Or.inl hj
        · exact fun j hj => (h j hj).symm

end Go.Proofs.YbulksxoFmt.Bx
