import Derived.Test.YbulkstgFmtGood
import Derived.Test.YbulkstgFmtDigits
import Derived.Test.YbulkstgFmtStart
namespace Go.Proofs.YbulkstgFmt.Tk
open Go Go.RowKit
open Go.Extern.Stop Go.Stop Go.Extern

set_option maxRecDepth 100000 in
set_option maxHeartbeats 4000000 in
theorem law_loerr (F : Interp) (w : World) (ao : Option Addr) (n c : Nat) (xs : List Int) (f : ByteArray) (hF : F.answers w.tape) (hn : xs.length = n) (hn1 : n ≤ 1024) (hx : Sl w ao c xs) (hxs : ∀ x ∈ xs, 0 ≤ x ∧ x < 256) (e : Nat) (hv : vend n (TT xs f) 0 = some e) (he : e < n) (hl7 : (TT xs f e).kind = 7) (hl60 : (TT xs f e).text.toList = [60]) (hr : ¬ (e + 1 < n ∧ (TT xs f (e + 1)).kind = 6)) :
    Calls Ybaf.prog 3 #[.slice ao n c, .string f] w fun e w' => e = .returned (.bool true) ∧ Below w.heap.size w w' := by
  have hlt : tis (tokAt n (TT xs f) e) ⟨#[60]⟩ = true := by
    rw [tokAt_lt he, six_less (t := TT xs f e) (six_mk _ _ _)]; simp [hl7, hl60]
  have hr6 : (tokAt n (TT xs f) (e + 1)).kind ≠ 6 := by
    intro h6
    have hlt := lt_of_kind (T := TT xs f) (n := n) (i := e + 1) (by rw [h6]; decide)
    rw [tokAt_lt hlt] at h6
    exact hr ⟨hlt, h6⟩
  have HLT : Hid _ := hlt
  have HR6 : Hid _ := hr6
  have HL7 : Hid _ := hl7
  have HL60 : Hid _ := hl60
  have HRR : Hid _ := hr
  have HV : Hid _ := hv
  clear hlt hr6 hl7 hl60 hr hv
  obtain ⟨i0, hi, hz0, hz1, hz2⟩ := info_parts info28
  obtain ⟨w1, hmk, hown, hgrow⟩ := run_make_own (P := Ybaf.prog) w w.heap.size 23 28 i0 _ 5 Ybaf.underlying23 hi hz0 hz1 .i64 .i64 n (by rw [hz2]; omega) (by unfold maxLen; omega) (Nat.le_refl _)
  have HN : Hid _ := hn
  have HXS : Hid _ := hxs
  clear hn hxs hz0
  go_enter Ybaf.func3, Ybaf.ntmps3
  go_wp2
  go_loopw [5, 6] (fun v i wr => ∃ k : Nat, k ≤ n ∧ i = .int .i64 (k : Int) ∧ v = .slice (some ⟨w.heap.size, 0, none⟩) k n ∧ wr.ownsRow w.heap.size 28 5 (.slice (some ⟨w.heap.size, 0, none⟩) k n) k (tc (TT xs f) k) ∧ w.grownBy wr none) (fun _ i _ => n - (intOf i).toNat)
  case atStart => exact ⟨0, Nat.zero_le _, rfl, rfl, hown, hgrow⟩
  case round =>
    obtain ⟨k, hk, rfl, rfl, howr, hgr⟩ := hrel
    clear hmk hown hgrow
    by_cases hlt : k < n
    · obtain ⟨b, off, hao, hcells⟩ := (hx.grown hgr).at (by rw [HN.out]; omega)
      subst hao
      have hck := hcells k (by rw [HN.out]; omega)
      have hb : 0 ≤ xs.getD k 0 ∧ xs.getD k 0 < 256 := by
        rw [List.getD, List.getElem?_eq_getElem (by rw [HN.out]; omega)]
        exact HXS.out _ (List.getElem_mem _)
      have hct := fun w => ctok_any w (xs.getD k 0) (k : Int) f hb.1 hb.2 (by omega) (by omega)
      have HCT : Hid _ := hct
      clear hcells hct
      go_wp2_with fail
      refine (HCT.out _).mono ?_
      have HTT : Hid (mkTok (xs.getD k 0) (k : Int) f = TT xs f k) := rfl
      rw [HTT.out]
      rintro e w2 ⟨rfl, hg2⟩
      have how2 := howr.kept hg2 (by right; simp [Value.ownBlock])
      have hgr2 := grown_trans hgr hg2
      have hsz2 := hgr2.size
      have hlo := (how2.lt _ rfl).2
      clear HCT hck hg2 howr hgr
      go_wp2_with (at_builtin; refine wpList_append_fits _ rfl (.tmp 30) (.tmp 38) 23 rfl w.heap.size 28 i0 5 Ybaf.underlying23 hi hz1 w.heap.size k n _ rfl (how2.alloc _) ⟨w2.heap.size, 0, none⟩ 1 1 (tcell (TT xs f k)) rfl rfl ?c1 ?c2 (by omega) ?_)
      case c1 =>
        intro j u hj
        match j, hj with
        | 0, hj => simp [tcell] at hj; subst hj; exact World.cell?_alloc_at _ _ _ _ rfl
        | 1, hj => simp [tcell] at hj; subst hj; exact World.cell?_alloc_at _ _ _ _ rfl
        | 2, hj => simp [tcell] at hj; subst hj; exact World.cell?_alloc_at _ _ _ _ rfl
        | 3, hj => simp [tcell] at hj; subst hj; exact World.cell?_alloc_at _ _ _ _ rfl
        | 4, hj => simp [tcell] at hj; subst hj; exact World.cell?_alloc_at _ _ _ _ rfl
      case c2 => intro u hu; simp [tcell] at hu; rcases hu with rfl | rfl | rfl | rfl | rfl <;> rfl
      intro w3 how3 hgr3
      have hgw : w.grownBy w3 none := by
        refine ⟨hgr3.os.trans hgr2.os, hgr3.tape.trans hgr2.tape, hgr3.output.trans hgr2.output, by have := hgr3.size; simp at this; omega, fun b hb _ => ?_⟩
        rw [hgr3.block b (by simp; omega) (by simp; omega), Below.heap_alloc _ _ _ (by omega), hgr2.block b hb (by simp)]
      clear hgr3 how2
      go_wp2
      go_roundw
      case rel => exact ⟨k + 1, by omega, by go_num, rfl, how3, hgw⟩
      case measure => simp [intOf]; omega
    · obtain rfl : k = n := by omega
      have hTx := Tx.ofRow howr
      have hB0 := hgr.size
      have hTs : ∀ j, Six (TT xs f j) := fun j => six_mk _ _ _
      have hP := Ps.ofTx hTx (Nat.le_refl k) (by omega)
      have hF1 : F.answers (wr.alloc (.cells #[.slice (some ⟨w.heap.size, 0, none⟩) k k, .int .i64 0, .pointer none] 33)).tape := by
        show F.answers wr.tape
        rw [hgr.tape]; exact hF
      have hgA := grown_alloc hgr (.cells #[.slice (some ⟨w.heap.size, 0, none⟩) k k, .int .i64 0, .pointer none] 33)
      have hne : w.heap.size < wr.heap.size := (howr.lt _ rfl).2
      clear howr hlt hgr
      go_wp2_with fail
      generalize wr.alloc (.cells #[.slice (some ⟨w.heap.size, 0, none⟩) k k, .int .i64 0, .pointer none] 33) = wa at *
      refine (elem_loerr F _ wr.heap.size w.heap.size k k 0 e (TT xs f) hF1 hP (value_ok _ _ _ _ _ hTs 0 e HV.out) (six_kw (six_at k _ hTs 0)).1 HLT.out HR6.out).mono ?_
      rintro e' w5 ⟨X, rfl, hg5⟩
      have hTx5 := hP.tx.later hg5 (by intro e; simp at e; omega)
      have hgB := grown_trans (grown_some hgA (some wr.heap.size)) hg5
      have hcv := cval_some w5 w.heap.size k k 0 e (TT xs f) (by omega) hTx5 HV.out
      rw [show ((0 : Nat) : Int) = 0 from rfl] at hcv
      have HCV : Hid _ := hcv
      clear hcv hP hg5 hgA hTx
      go_wp2_with fail
      refine Calls.mono HCV.out ?_
      rintro e' w6 ⟨rfl, hg6⟩
      have hTx6 := hTx5.later hg6 (by simp)
      have hgC := grown_trans hgB (grown_some hg6 (some wr.heap.size))
      have hBel : Below w.heap.size w w6 := ⟨hgC.os, hgC.tape, hgC.output, hgC.size, fun b hb => hgC.block b hb (by intro e; simp at e; omega)⟩
      have c0 := hTx6.t0 e he
      have c1 := hTx6.t1 e he
      have k7 : ((TT xs f e).kind == 7) = true := by simp [HL7.out]
      have k60 : ((TT xs f e).text.toList == [60]) = true := by simp [HL60.out]
      have hcase : decide ((e : Int) + 1 < (k : Int)) = false ∨ (e + 1 < k ∧ ((TT xs f (e + 1)).kind == 6) = false) := by
        by_cases h1 : e + 1 < k
        · right; refine ⟨h1, ?_⟩
          have : ¬ (TT xs f (e + 1)).kind = 6 := fun h6 => HRR.out ⟨h1, h6⟩
          simpa using this
        · left; simp; omega
      clear HCV hgB hgC hg6 hTx5 HLT HR6 HL7 HL60 HRR HV
      generalize (TT xs f e).kind = kk at *
      generalize (TT xs f e).text = tx at *
      rcases hcase with h1 | ⟨h1, h6⟩
      · clear hTx6
        go_wp2
        go_ret
        exact ⟨rfl, hBel⟩
      · have d0 := hTx6.t0 (e + 1) h1
        clear hTx6
        generalize (TT xs f (e + 1)).kind = k6 at *
        go_wp2
        go_ret
        exact ⟨rfl, hBel⟩

end Go.Proofs.YbulkstgFmt.Tk
