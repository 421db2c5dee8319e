import Derived.Test.YbulkstgFmtGood
import Derived.Test.YbulkstgFmtDigits
import Derived.Test.YbulkstgFmtStart
namespace Go.Proofs.YbulkstgFmt.Tk
open Go Go.RowKit
open Go.Extern.Stop Go.Stop Go.Extern

set_option maxRecDepth 100000 in
set_option maxHeartbeats 2000000 in
theorem law_verr (F : Interp) (w : World) (ao : Option Addr) (n c : Nat) (xs : List Int) (f : ByteArray) (hF : F.answers w.tape) (hn : xs.length = n) (hn1 : n ≤ 1024) (hx : Sl w ao c xs) (hxs : ∀ x ∈ xs, 0 ≤ x ∧ x < 256) (hv : vend n (TT xs f) 0 = none) :
    Calls Ybaf.prog 3 #[.slice ao n c, .string f] w fun e w' => e = .returned (.bool true) ∧ Below w.heap.size w w' := by
  obtain ⟨i0, hi, hz0, hz1, hz2⟩ := info_parts info28
  obtain ⟨w1, hmk, hown, hgrow⟩ := run_make_own (P := Ybaf.prog) w w.heap.size 23 28 i0 _ 5 Ybaf.underlying23 hi hz0 hz1 .i64 .i64 n (by rw [hz2]; omega) (by unfold maxLen; omega) (Nat.le_refl _)
  have HN : Hid _ := hn
  have HXS : Hid _ := hxs
  clear hn hxs hz0
  go_enter Ybaf.func3, Ybaf.ntmps3
  go_wp2
  go_loopw [5, 6] (fun v i wr => ∃ k : Nat, k ≤ n ∧ i = .int .i64 (k : Int) ∧ v = .slice (some ⟨w.heap.size, 0, none⟩) k n ∧ wr.ownsRow w.heap.size 28 5 (.slice (some ⟨w.heap.size, 0, none⟩) k n) k (tc (TT xs f) k) ∧ w.grownBy wr none) (fun _ i _ => n - (intOf i).toNat)
  case atStart => exact ⟨0, Nat.zero_le _, rfl, rfl, hown, hgrow⟩
  case round =>
    obtain ⟨k, hk, rfl, rfl, howr, hgr⟩ := hrel
    clear hmk hown hgrow
    by_cases hlt : k < n
    · obtain ⟨b, off, hao, hcells⟩ := (hx.grown hgr).at (by rw [HN.out]; omega)
      subst hao
      have hck := hcells k (by rw [HN.out]; omega)
      have hb : 0 ≤ xs.getD k 0 ∧ xs.getD k 0 < 256 := by
        rw [List.getD, List.getElem?_eq_getElem (by rw [HN.out]; omega)]
        exact HXS.out _ (List.getElem_mem _)
      have hct := fun w => ctok_any w (xs.getD k 0) (k : Int) f hb.1 hb.2 (by omega) (by omega)
      have HCT : Hid _ := hct
      clear hcells hct
      go_wp2_with fail
      refine (HCT.out _).mono ?_
      have HTT : Hid (mkTok (xs.getD k 0) (k : Int) f = TT xs f k) := rfl
      rw [HTT.out]
      rintro e w2 ⟨rfl, hg2⟩
      have how2 := howr.kept hg2 (by right; simp [Value.ownBlock])
      have hgr2 := grown_trans hgr hg2
      have hsz2 := hgr2.size
      have hlo := (how2.lt _ rfl).2
      clear HCT hck hg2 howr hgr
      go_wp2_with (at_builtin; refine wpList_append_fits _ rfl (.tmp 30) (.tmp 38) 23 rfl w.heap.size 28 i0 5 Ybaf.underlying23 hi hz1 w.heap.size k n _ rfl (how2.alloc _) ⟨w2.heap.size, 0, none⟩ 1 1 (tcell (TT xs f k)) rfl rfl ?c1 ?c2 (by omega) ?_)
      case c1 =>
        intro j u hj
        match j, hj with
        | 0, hj => simp [tcell] at hj; subst hj; exact World.cell?_alloc_at _ _ _ _ rfl
        | 1, hj => simp [tcell] at hj; subst hj; exact World.cell?_alloc_at _ _ _ _ rfl
        | 2, hj => simp [tcell] at hj; subst hj; exact World.cell?_alloc_at _ _ _ _ rfl
        | 3, hj => simp [tcell] at hj; subst hj; exact World.cell?_alloc_at _ _ _ _ rfl
        | 4, hj => simp [tcell] at hj; subst hj; exact World.cell?_alloc_at _ _ _ _ rfl
      case c2 => intro u hu; simp [tcell] at hu; rcases hu with rfl | rfl | rfl | rfl | rfl <;> rfl
      intro w3 how3 hgr3
      have hgw : w.grownBy w3 none := by
        refine ⟨hgr3.os.trans hgr2.os, hgr3.tape.trans hgr2.tape, hgr3.output.trans hgr2.output, by have := hgr3.size; simp at this; omega, fun b hb _ => ?_⟩
        rw [hgr3.block b (by simp; omega) (by simp; omega), Below.heap_alloc _ _ _ (by omega), hgr2.block b hb (by simp)]
      clear hgr3 how2
      go_wp2
      go_roundw
      case rel => exact ⟨k + 1, by omega, by go_num, rfl, how3, hgw⟩
      case measure => simp [intOf]; omega
    · obtain rfl : k = n := by omega
      have hTx := Tx.ofRow howr
      have hB0 := hgr.size
      have hTs : ∀ j, Six (TT xs f j) := fun j => six_mk _ _ _
      have hP := Ps.ofTx hTx (Nat.le_refl k) (by omega)
      have hF1 : F.answers (wr.alloc (.cells #[.slice (some ⟨w.heap.size, 0, none⟩) k k, .int .i64 0, .pointer none] 33)).tape := by
        show F.answers wr.tape
        rw [hgr.tape]; exact hF
      have hgA := grown_alloc hgr (.cells #[.slice (some ⟨w.heap.size, 0, none⟩) k k, .int .i64 0, .pointer none] 33)
      have hne : w.heap.size < wr.heap.size := (howr.lt _ rfl).2
      clear howr hlt hgr
      go_wp2_with fail
      generalize wr.alloc (.cells #[.slice (some ⟨w.heap.size, 0, none⟩) k k, .int .i64 0, .pointer none] 33) = wa at *
      refine (elem_verr F _ wr.heap.size w.heap.size k k 0 (TT xs f) hF1 hP (value_err F _ _ _ _ _ hTs 0 hv) (six_kw (six_at k _ hTs 0)).1).mono ?_
      rintro e w5 ⟨X, rfl, hg5⟩
      have hTx5 := hP.tx.later hg5 (by intro e; simp at e; omega)
      have hgB := grown_trans (grown_some hgA (some wr.heap.size)) hg5
      have hcv := cval_none w5 w.heap.size k k 0 (TT xs f) (by omega) hTx5 hv
      rw [show ((0 : Nat) : Int) = 0 from rfl] at hcv
      have HCV : Hid _ := hcv
      clear hcv hP hg5 hgA hTx hTx5 hv
      go_wp2_with fail
      refine Calls.mono HCV.out ?_
      rintro e w6 ⟨rfl, hg6⟩
      have hgC := grown_trans hgB (grown_some hg6 (some wr.heap.size))
      have hBel : Below w.heap.size w w6 := ⟨hgC.os, hgC.tape, hgC.output, hgC.size, fun b hb => hgC.block b hb (by intro e; simp at e; omega)⟩
      clear HCV hgB hgC hg6
      go_wp2
      go_ret
      exact ⟨rfl, hBel⟩

end Go.Proofs.YbulkstgFmt.Tk
