import Derived.Test.YbulkstgFmtLawThreeD
namespace Go.Proofs.YbulkstgFmt.Tk
open Go Go.RowKit
open Go.Extern.Stop Go.Stop Go.Extern

set_option maxRecDepth 100000 in
set_option maxHeartbeats 4000000 in
theorem law_rng_10_err (F : Interp) (w : World) (ao : Option Addr) (n c : Nat) (xs : List Int) (f : ByteArray) (hF : F.answers w.tape) (hn : xs.length = n) (hn1 : n ≤ 1024) (hx : Sl w ao c xs) (hxs : ∀ x ∈ xs, 0 ≤ x ∧ x < 256) (e : Nat) (hv : vend n (TT xs f) 0 = some e) (hl : tis (tokAt n (TT xs f) e) ⟨#[60]⟩ = true) (hr : (tokAt n (TT xs f) (e + 1)).kind = 6) (hl2 : tis (tokAt n (TT xs f) (e + 2)) ⟨#[60]⟩ = false) (hv2 : vend n (TT xs f) (e + 2) = none) :
    Calls Ybaf.prog 3 #[.slice ao n c, .string f] w fun e w' => e = .returned (.bool true) ∧ Below w.heap.size w w' := by
  have h0n : 0 < n := by
    rcases Nat.eq_zero_or_pos n with h | h
    · subst h; simp [vend] at hv
    · exact h
  have hen : e ≤ n := (vend_le hv).2
  have HL : Hid _ := hl
  have HR : Hid _ := hr
  have HL2 : Hid _ := hl2
  have HV : Hid _ := hv
  have HV2 : Hid _ := hv2
  clear hl hr hv hl2 hv2
  obtain ⟨i0, hi, hz0, hz1, hz2⟩ := info_parts info28
  obtain ⟨w1, hmk, hown, hgrow⟩ := run_make_own (P := Ybaf.prog) w w.heap.size 23 28 i0 _ 5 Ybaf.underlying23 hi hz0 hz1 .i64 .i64 n (by rw [hz2]; omega) (by unfold maxLen; omega) (Nat.le_refl _)
  have HN : Hid _ := hn
  have HXS : Hid _ := hxs
  clear hn hxs hz0
  go_enter Ybaf.func3, Ybaf.ntmps3
  go_wp2
  go_loopw [5, 6] (fun v i wr => ∃ k : Nat, k ≤ n ∧ i = .int .i64 (k : Int) ∧ v = .slice (some ⟨w.heap.size, 0, none⟩) k n ∧ wr.ownsRow w.heap.size 28 5 (.slice (some ⟨w.heap.size, 0, none⟩) k n) k (tc (TT xs f) k) ∧ w.grownBy wr none) (fun _ i _ => n - (intOf i).toNat)
  case atStart => exact ⟨0, Nat.zero_le _, rfl, rfl, hown, hgrow⟩
  case round =>
    obtain ⟨k, hk, rfl, rfl, howr, hgr⟩ := hrel
    clear hmk hown hgrow
    by_cases hlt : k < n
    · obtain ⟨b, off, hao, hcells⟩ := (hx.grown hgr).at (by rw [HN.out]; omega)
      subst hao
      have hck := hcells k (by rw [HN.out]; omega)
      have hb : 0 ≤ xs.getD k 0 ∧ xs.getD k 0 < 256 := by
        rw [List.getD, List.getElem?_eq_getElem (by rw [HN.out]; omega)]
        exact HXS.out _ (List.getElem_mem _)
      have hct := fun w => ctok_any w (xs.getD k 0) (k : Int) f hb.1 hb.2 (by omega) (by omega)
      have HCT : Hid _ := hct
      clear hcells hct
      go_wp2_with fail
      refine (HCT.out _).mono ?_
      have HTT : Hid (mkTok (xs.getD k 0) (k : Int) f = TT xs f k) := rfl
      rw [HTT.out]
      rintro e w2 ⟨rfl, hg2⟩
      have how2 := howr.kept hg2 (by right; simp [Value.ownBlock])
      have hgr2 := grown_trans hgr hg2
      have hsz2 := hgr2.size
      have hlo := (how2.lt _ rfl).2
      clear HCT hck hg2 howr hgr
      go_wp2_with (at_builtin; refine wpList_append_fits _ rfl (.tmp 30) (.tmp 38) 23 rfl w.heap.size 28 i0 5 Ybaf.underlying23 hi hz1 w.heap.size k n _ rfl (how2.alloc _) ⟨w2.heap.size, 0, none⟩ 1 1 (tcell (TT xs f k)) rfl rfl ?c1 ?c2 (by omega) ?_)
      case c1 =>
        intro j u hj
        match j, hj with
        | 0, hj => simp [tcell] at hj; subst hj; exact World.cell?_alloc_at _ _ _ _ rfl
        | 1, hj => simp [tcell] at hj; subst hj; exact World.cell?_alloc_at _ _ _ _ rfl
        | 2, hj => simp [tcell] at hj; subst hj; exact World.cell?_alloc_at _ _ _ _ rfl
        | 3, hj => simp [tcell] at hj; subst hj; exact World.cell?_alloc_at _ _ _ _ rfl
        | 4, hj => simp [tcell] at hj; subst hj; exact World.cell?_alloc_at _ _ _ _ rfl
      case c2 => intro u hu; simp [tcell] at hu; rcases hu with rfl | rfl | rfl | rfl | rfl <;> rfl
      intro w3 how3 hgr3
      have hgw : w.grownBy w3 none := by
        refine ⟨hgr3.os.trans hgr2.os, hgr3.tape.trans hgr2.tape, hgr3.output.trans hgr2.output, by have := hgr3.size; simp at this; omega, fun b hb _ => ?_⟩
        rw [hgr3.block b (by simp; omega) (by simp; omega), Below.heap_alloc _ _ _ (by omega), hgr2.block b hb (by simp)]
      clear hgr3 how2
      go_wp2
      go_roundw
      case rel => exact ⟨k + 1, by omega, by go_num, rfl, how3, hgw⟩
      case measure => simp [intOf]; omega
    · obtain rfl : k = n := by omega
      have hTx := Tx.ofRow howr
      have hB0 := hgr.size
      have hTs : ∀ j, Six (TT xs f j) := fun j => six_mk _ _ _
      have hP := Ps.ofTx hTx (Nat.le_refl k) (by omega)
      have hF1 : F.answers (wr.alloc (.cells #[.slice (some ⟨w.heap.size, 0, none⟩) k k, .int .i64 0, .pointer none] 33)).tape := by
        show F.answers wr.tape
        rw [hgr.tape]; exact hF
      have hgA := grown_alloc hgr (.cells #[.slice (some ⟨w.heap.size, 0, none⟩) k k, .int .i64 0, .pointer none] 33)
      have hne : w.heap.size < wr.heap.size := (howr.lt _ rfl).2
      clear howr hlt hgr
      go_wp2_with fail
      generalize wr.alloc (.cells #[.slice (some ⟨w.heap.size, 0, none⟩) k k, .int .i64 0, .pointer none] 33) = wa at *
      refine (elem_rng_err F _ wr.heap.size w.heap.size k k 0 e (TT xs f) true false hF1 hP (value_ok _ _ _ _ _ hTs 0 e HV.out) (six_kw (six_at k _ hTs 0)).1 HL.out HR.out HL2.out (value_err F _ _ _ _ _ hTs (e + 2) HV2.out)).mono ?_
      rintro e' w5 ⟨E, X, rfl, hE0, hE, hg5⟩
      rw [tokAt_lt h0n] at hE
      have hTx5 := hP.tx.later hg5 (by intro e; simp at e; omega)
      have hgB := grown_trans (grown_some hgA (some wr.heap.size)) hg5
      have hcv := cval_some w5 w.heap.size k k 0 e (TT xs f) (by omega) hTx5 HV.out
      rw [show ((0 : Nat) : Int) = 0 from rfl] at hcv
      have HCV : Hid _ := hcv
      clear hcv hP hg5 hgA hTx
      go_wp2_with fail
      refine Calls.mono HCV.out ?_
      rintro e' w6 ⟨rfl, hg6⟩
      have hTx6 := hTx5.later hg6 (by simp)
      have hE6 := hE.later hg6 (by simp)
      have hgC := grown_trans hgB (grown_some hg6 (some wr.heap.size))
      have hcv2 := fun w' (h : Tx w' w.heap.size k (TT xs f)) => cval_none w' w.heap.size k k (e + 2) (TT xs f) (by omega) h HV2.out
      rw [show ((e + 2 : Nat) : Int) = (e : Int) + 2 by simp] at hcv2
      have HCV2 : Hid _ := hcv2
      have r6 := kind6 HR.out
      have l7 := less_t HL.out
      have c0 := hTx6.t0 e l7.1
      have c1 := hTx6.t1 e l7.1
      have c7 := l7.2.1
      have c60 := l7.2.2
      generalize (TT xs f e).kind = kk at *
      generalize (TT xs f e).text = tx at *
      have he1 := r6.1
      have he0 := l7.1
      have c2 := hTx6.t0 (e + 1) r6.1
      have c6 : ((TT xs f (e + 1)).kind == 6) = true := by simp [r6.2]
      generalize (TT xs f (e + 1)).kind = k6 at *
      clear l7 r6
      rcases less_f HL2.out with h1 | ⟨hej, d7⟩ | ⟨hej, d7, d60⟩
      · have hd : decide ((e : Int) + 2 < (k : Int)) = false := by simp; omega
        go_wp2_with fail
        refine Calls.mono (HCV2.out _ hTx6) ?_
        rintro e' w7 ⟨rfl, hg7⟩
        have hTx7 := hTx6.later hg7 (by simp)
        have hE7 := hE6.later hg7 (by simp)
        have hgD := grown_trans hgC (grown_some hg7 (some wr.heap.size))
        have hBel : Below w.heap.size w w7 := ⟨hgD.os, hgD.tape, hgD.output, hgD.size, fun b hb => hgD.block b hb (by intro e; simp at e; omega)⟩
        obtain ⟨_, f0, f1, f2, f3, f4, f5', f6', f7, f8, f9, f10, _⟩ := hE7
        have f5 : w7.cell? ⟨E, 5, none⟩ = some (.slice (some ⟨w.heap.size, 0, none⟩) e k) := by simpa using f5'
        have f6 := f6'
        have x2 : w7.cell? ⟨w.heap.size, 2, none⟩ = some (.string (TT xs f 0).file) := by simpa using hTx7.t2 0 h0n
        have x3 : w7.cell? ⟨w.heap.size, 3, none⟩ = some (.int .i64 (TT xs f 0).line) := by simpa using hTx7.t3 0 h0n
        have x4 : w7.cell? ⟨w.heap.size, 4, none⟩ = some (.int .i64 (TT xs f 0).col) := by simpa using hTx7.t4 0 h0n
        have hcs : ∀ d c1 c2, Calls Ybaf.prog 9 #[.slice (some ⟨w.heap.size, 0, none⟩) e c1, .slice (some ⟨w.heap.size, 0, none⟩) e c2] (w7.drewN d) fun e w' => e = .returned (.bool true) ∧ ∃ k, w' = (w7.drewN d).drewN k := fun d c1 c2 => csame_any (w7.drewN d) w.heap.size 0 e c1 c2 (TT xs f) (by omega)
          (fun j hj => by simpa using hTx7.t0 j (by omega)) (fun j hj => by simpa using hTx7.t1 j (by omega)) (fun j hj => by simpa using hTx7.t2 j (by omega)) (fun j hj => by simpa using hTx7.t3 j (by omega)) (fun j hj => by simpa using hTx7.t4 j (by omega))
        have HCS : Hid _ := hcs
        have hsl := fun w' => slice_to_toks w' w.heap.size k k e hen
        have h42 := eql42
        have g42 := neq42
        clear HCV HCV2 hgB hgC hgD hg6 hg7 hTx5 hTx6 hTx7 HL HR HL2 HV HV2 hE hE6 f5' f6' hcs
        generalize (TT xs f 0).file = fl0 at *
        generalize (TT xs f 0).line = ln0 at *
        generalize (TT xs f 0).col = co0 at *
        go_wp2_with fail
        try simp only [List.append]
        go_quiet ((go_at_call 9; exact Calls.quiet_of (HCS.out _ _ _)))
        go_wp2
        go_ret
        exact ⟨rfl, below_drewN hBel _⟩
      · have d0 := hTx6.t0 (e + 2) hej
        generalize (TT xs f (e + 2)).kind = kj at *
        go_wp2_with fail
        refine Calls.mono (HCV2.out _ hTx6) ?_
        rintro e' w7 ⟨rfl, hg7⟩
        have hTx7 := hTx6.later hg7 (by simp)
        have hE7 := hE6.later hg7 (by simp)
        have hgD := grown_trans hgC (grown_some hg7 (some wr.heap.size))
        have hBel : Below w.heap.size w w7 := ⟨hgD.os, hgD.tape, hgD.output, hgD.size, fun b hb => hgD.block b hb (by intro e; simp at e; omega)⟩
        obtain ⟨_, f0, f1, f2, f3, f4, f5', f6', f7, f8, f9, f10, _⟩ := hE7
        have f5 : w7.cell? ⟨E, 5, none⟩ = some (.slice (some ⟨w.heap.size, 0, none⟩) e k) := by simpa using f5'
        have f6 := f6'
        have x2 : w7.cell? ⟨w.heap.size, 2, none⟩ = some (.string (TT xs f 0).file) := by simpa using hTx7.t2 0 h0n
        have x3 : w7.cell? ⟨w.heap.size, 3, none⟩ = some (.int .i64 (TT xs f 0).line) := by simpa using hTx7.t3 0 h0n
        have x4 : w7.cell? ⟨w.heap.size, 4, none⟩ = some (.int .i64 (TT xs f 0).col) := by simpa using hTx7.t4 0 h0n
        have hcs : ∀ d c1 c2, Calls Ybaf.prog 9 #[.slice (some ⟨w.heap.size, 0, none⟩) e c1, .slice (some ⟨w.heap.size, 0, none⟩) e c2] (w7.drewN d) fun e w' => e = .returned (.bool true) ∧ ∃ k, w' = (w7.drewN d).drewN k := fun d c1 c2 => csame_any (w7.drewN d) w.heap.size 0 e c1 c2 (TT xs f) (by omega)
          (fun j hj => by simpa using hTx7.t0 j (by omega)) (fun j hj => by simpa using hTx7.t1 j (by omega)) (fun j hj => by simpa using hTx7.t2 j (by omega)) (fun j hj => by simpa using hTx7.t3 j (by omega)) (fun j hj => by simpa using hTx7.t4 j (by omega))
        have HCS : Hid _ := hcs
        have hsl := fun w' => slice_to_toks w' w.heap.size k k e hen
        have h42 := eql42
        have g42 := neq42
        clear HCV HCV2 hgB hgC hgD hg6 hg7 hTx5 hTx6 hTx7 HL HR HL2 HV HV2 hE hE6 f5' f6' hcs
        generalize (TT xs f 0).file = fl0 at *
        generalize (TT xs f 0).line = ln0 at *
        generalize (TT xs f 0).col = co0 at *
        go_wp2_with fail
        try simp only [List.append]
        go_quiet ((go_at_call 9; exact Calls.quiet_of (HCS.out _ _ _)))
        go_wp2
        go_ret
        exact ⟨rfl, below_drewN hBel _⟩
      · have d0 := hTx6.t0 (e + 2) hej
        have d1 := hTx6.t1 (e + 2) hej
        generalize (TT xs f (e + 2)).kind = kj at *
        generalize (TT xs f (e + 2)).text = tj at *
        go_wp2_with fail
        refine Calls.mono (HCV2.out _ hTx6) ?_
        rintro e' w7 ⟨rfl, hg7⟩
        have hTx7 := hTx6.later hg7 (by simp)
        have hE7 := hE6.later hg7 (by simp)
        have hgD := grown_trans hgC (grown_some hg7 (some wr.heap.size))
        have hBel : Below w.heap.size w w7 := ⟨hgD.os, hgD.tape, hgD.output, hgD.size, fun b hb => hgD.block b hb (by intro e; simp at e; omega)⟩
        obtain ⟨_, f0, f1, f2, f3, f4, f5', f6', f7, f8, f9, f10, _⟩ := hE7
        have f5 : w7.cell? ⟨E, 5, none⟩ = some (.slice (some ⟨w.heap.size, 0, none⟩) e k) := by simpa using f5'
        have f6 := f6'
        have x2 : w7.cell? ⟨w.heap.size, 2, none⟩ = some (.string (TT xs f 0).file) := by simpa using hTx7.t2 0 h0n
        have x3 : w7.cell? ⟨w.heap.size, 3, none⟩ = some (.int .i64 (TT xs f 0).line) := by simpa using hTx7.t3 0 h0n
        have x4 : w7.cell? ⟨w.heap.size, 4, none⟩ = some (.int .i64 (TT xs f 0).col) := by simpa using hTx7.t4 0 h0n
        have hcs : ∀ d c1 c2, Calls Ybaf.prog 9 #[.slice (some ⟨w.heap.size, 0, none⟩) e c1, .slice (some ⟨w.heap.size, 0, none⟩) e c2] (w7.drewN d) fun e w' => e = .returned (.bool true) ∧ ∃ k, w' = (w7.drewN d).drewN k := fun d c1 c2 => csame_any (w7.drewN d) w.heap.size 0 e c1 c2 (TT xs f) (by omega)
          (fun j hj => by simpa using hTx7.t0 j (by omega)) (fun j hj => by simpa using hTx7.t1 j (by omega)) (fun j hj => by simpa using hTx7.t2 j (by omega)) (fun j hj => by simpa using hTx7.t3 j (by omega)) (fun j hj => by simpa using hTx7.t4 j (by omega))
        have HCS : Hid _ := hcs
        have hsl := fun w' => slice_to_toks w' w.heap.size k k e hen
        have h42 := eql42
        have g42 := neq42
        clear HCV HCV2 hgB hgC hgD hg6 hg7 hTx5 hTx6 hTx7 HL HR HL2 HV HV2 hE hE6 f5' f6' hcs
        generalize (TT xs f 0).file = fl0 at *
        generalize (TT xs f 0).line = ln0 at *
        generalize (TT xs f 0).col = co0 at *
        go_wp2_with fail
        try simp only [List.append]
        go_quiet ((go_at_call 9; exact Calls.quiet_of (HCS.out _ _ _)))
        go_wp2
        go_ret
        exact ⟨rfl, below_drewN hBel _⟩

set_option maxRecDepth 100000 in
set_option maxHeartbeats 4000000 in
theorem law_rng_00_err (F : Interp) (w : World) (ao : Option Addr) (n c : Nat) (xs : List Int) (f : ByteArray) (hF : F.answers w.tape) (hn : xs.length = n) (hn1 : n ≤ 1024) (hx : Sl w ao c xs) (hxs : ∀ x ∈ xs, 0 ≤ x ∧ x < 256) (e : Nat) (hv : vend n (TT xs f) 0 = some e) (hl : tis (tokAt n (TT xs f) e) ⟨#[60]⟩ = false) (hr : (tokAt n (TT xs f) (e)).kind = 6) (hl2 : tis (tokAt n (TT xs f) (e + 1)) ⟨#[60]⟩ = false) (hv2 : vend n (TT xs f) (e + 1) = none) :
    Calls Ybaf.prog 3 #[.slice ao n c, .string f] w fun e w' => e = .returned (.bool true) ∧ Below w.heap.size w w' := by
  have h0n : 0 < n := by
    rcases Nat.eq_zero_or_pos n with h | h
    · subst h; simp [vend] at hv
    · exact h
  have hen : e ≤ n := (vend_le hv).2
  have HL : Hid _ := hl
  have HR : Hid _ := hr
  have HL2 : Hid _ := hl2
  have HV : Hid _ := hv
  have HV2 : Hid _ := hv2
  clear hl hr hv hl2 hv2
  obtain ⟨i0, hi, hz0, hz1, hz2⟩ := info_parts info28
  obtain ⟨w1, hmk, hown, hgrow⟩ := run_make_own (P := Ybaf.prog) w w.heap.size 23 28 i0 _ 5 Ybaf.underlying23 hi hz0 hz1 .i64 .i64 n (by rw [hz2]; omega) (by unfold maxLen; omega) (Nat.le_refl _)
  have HN : Hid _ := hn
  have HXS : Hid _ := hxs
  clear hn hxs hz0
  go_enter Ybaf.func3, Ybaf.ntmps3
  go_wp2
  go_loopw [5, 6] (fun v i wr => ∃ k : Nat, k ≤ n ∧ i = .int .i64 (k : Int) ∧ v = .slice (some ⟨w.heap.size, 0, none⟩) k n ∧ wr.ownsRow w.heap.size 28 5 (.slice (some ⟨w.heap.size, 0, none⟩) k n) k (tc (TT xs f) k) ∧ w.grownBy wr none) (fun _ i _ => n - (intOf i).toNat)
  case atStart => exact ⟨0, Nat.zero_le _, rfl, rfl, hown, hgrow⟩
  case round =>
    obtain ⟨k, hk, rfl, rfl, howr, hgr⟩ := hrel
    clear hmk hown hgrow
    by_cases hlt : k < n
    · obtain ⟨b, off, hao, hcells⟩ := (hx.grown hgr).at (by rw [HN.out]; omega)
      subst hao
      have hck := hcells k (by rw [HN.out]; omega)
      have hb : 0 ≤ xs.getD k 0 ∧ xs.getD k 0 < 256 := by
        rw [List.getD, List.getElem?_eq_getElem (by rw [HN.out]; omega)]
        exact HXS.out _ (List.getElem_mem _)
      have hct := fun w => ctok_any w (xs.getD k 0) (k : Int) f hb.1 hb.2 (by omega) (by omega)
      have HCT : Hid _ := hct
      clear hcells hct
      go_wp2_with fail
      refine (HCT.out _).mono ?_
      have HTT : Hid (mkTok (xs.getD k 0) (k : Int) f = TT xs f k) := rfl
      rw [HTT.out]
      rintro e w2 ⟨rfl, hg2⟩
      have how2 := howr.kept hg2 (by right; simp [Value.ownBlock])
      have hgr2 := grown_trans hgr hg2
      have hsz2 := hgr2.size
      have hlo := (how2.lt _ rfl).2
      clear HCT hck hg2 howr hgr
      go_wp2_with (at_builtin; refine wpList_append_fits _ rfl (.tmp 30) (.tmp 38) 23 rfl w.heap.size 28 i0 5 Ybaf.underlying23 hi hz1 w.heap.size k n _ rfl (how2.alloc _) ⟨w2.heap.size, 0, none⟩ 1 1 (tcell (TT xs f k)) rfl rfl ?c1 ?c2 (by omega) ?_)
      case c1 =>
        intro j u hj
        match j, hj with
        | 0, hj => simp [tcell] at hj; subst hj; exact World.cell?_alloc_at _ _ _ _ rfl
        | 1, hj => simp [tcell] at hj; subst hj; exact World.cell?_alloc_at _ _ _ _ rfl
        | 2, hj => simp [tcell] at hj; subst hj; exact World.cell?_alloc_at _ _ _ _ rfl
        | 3, hj => simp [tcell] at hj; subst hj; exact World.cell?_alloc_at _ _ _ _ rfl
        | 4, hj => simp [tcell] at hj; subst hj; exact World.cell?_alloc_at _ _ _ _ rfl
      case c2 => intro u hu; simp [tcell] at hu; rcases hu with rfl | rfl | rfl | rfl | rfl <;> rfl
      intro w3 how3 hgr3
      have hgw : w.grownBy w3 none := by
        refine ⟨hgr3.os.trans hgr2.os, hgr3.tape.trans hgr2.tape, hgr3.output.trans hgr2.output, by have := hgr3.size; simp at this; omega, fun b hb _ => ?_⟩
        rw [hgr3.block b (by simp; omega) (by simp; omega), Below.heap_alloc _ _ _ (by omega), hgr2.block b hb (by simp)]
      clear hgr3 how2
      go_wp2
      go_roundw
      case rel => exact ⟨k + 1, by omega, by go_num, rfl, how3, hgw⟩
      case measure => simp [intOf]; omega
    · obtain rfl : k = n := by omega
      have hTx := Tx.ofRow howr
      have hB0 := hgr.size
      have hTs : ∀ j, Six (TT xs f j) := fun j => six_mk _ _ _
      have hP := Ps.ofTx hTx (Nat.le_refl k) (by omega)
      have hF1 : F.answers (wr.alloc (.cells #[.slice (some ⟨w.heap.size, 0, none⟩) k k, .int .i64 0, .pointer none] 33)).tape := by
        show F.answers wr.tape
        rw [hgr.tape]; exact hF
      have hgA := grown_alloc hgr (.cells #[.slice (some ⟨w.heap.size, 0, none⟩) k k, .int .i64 0, .pointer none] 33)
      have hne : w.heap.size < wr.heap.size := (howr.lt _ rfl).2
      clear howr hlt hgr
      go_wp2_with fail
      generalize wr.alloc (.cells #[.slice (some ⟨w.heap.size, 0, none⟩) k k, .int .i64 0, .pointer none] 33) = wa at *
      refine (elem_rng_err F _ wr.heap.size w.heap.size k k 0 e (TT xs f) false false hF1 hP (value_ok _ _ _ _ _ hTs 0 e HV.out) (six_kw (six_at k _ hTs 0)).1 HL.out HR.out HL2.out (value_err F _ _ _ _ _ hTs (e + 1) HV2.out)).mono ?_
      rintro e' w5 ⟨E, X, rfl, hE0, hE, hg5⟩
      rw [tokAt_lt h0n] at hE
      have hTx5 := hP.tx.later hg5 (by intro e; simp at e; omega)
      have hgB := grown_trans (grown_some hgA (some wr.heap.size)) hg5
      have hcv := cval_some w5 w.heap.size k k 0 e (TT xs f) (by omega) hTx5 HV.out
      rw [show ((0 : Nat) : Int) = 0 from rfl] at hcv
      have HCV : Hid _ := hcv
      clear hcv hP hg5 hgA hTx
      go_wp2_with fail
      refine Calls.mono HCV.out ?_
      rintro e' w6 ⟨rfl, hg6⟩
      have hTx6 := hTx5.later hg6 (by simp)
      have hE6 := hE.later hg6 (by simp)
      have hgC := grown_trans hgB (grown_some hg6 (some wr.heap.size))
      have hcv2 := fun w' (h : Tx w' w.heap.size k (TT xs f)) => cval_none w' w.heap.size k k (e + 1) (TT xs f) (by omega) h HV2.out
      rw [show ((e + 1 : Nat) : Int) = (e : Int) + 1 by simp] at hcv2
      have HCV2 : Hid _ := hcv2
      have r6 := kind6 HR.out
      have c0 := hTx6.t0 e r6.1
      have c7 : ((TT xs f e).kind == 7) = false := by simp [r6.2]
      have c6 : ((TT xs f e).kind == 6) = true := by simp [r6.2]
      have he0 := r6.1
      generalize (TT xs f e).kind = kk at *
      clear r6
      rcases less_f HL2.out with h1 | ⟨hej, d7⟩ | ⟨hej, d7, d60⟩
      · have hd : decide ((e : Int) + 1 < (k : Int)) = false := by simp; omega
        go_wp2_with fail
        refine Calls.mono (HCV2.out _ hTx6) ?_
        rintro e' w7 ⟨rfl, hg7⟩
        have hTx7 := hTx6.later hg7 (by simp)
        have hE7 := hE6.later hg7 (by simp)
        have hgD := grown_trans hgC (grown_some hg7 (some wr.heap.size))
        have hBel : Below w.heap.size w w7 := ⟨hgD.os, hgD.tape, hgD.output, hgD.size, fun b hb => hgD.block b hb (by intro e; simp at e; omega)⟩
        obtain ⟨_, f0, f1, f2, f3, f4, f5', f6', f7, f8, f9, f10, _⟩ := hE7
        have f5 : w7.cell? ⟨E, 5, none⟩ = some (.slice (some ⟨w.heap.size, 0, none⟩) e k) := by simpa using f5'
        have f6 := f6'
        have x2 : w7.cell? ⟨w.heap.size, 2, none⟩ = some (.string (TT xs f 0).file) := by simpa using hTx7.t2 0 h0n
        have x3 : w7.cell? ⟨w.heap.size, 3, none⟩ = some (.int .i64 (TT xs f 0).line) := by simpa using hTx7.t3 0 h0n
        have x4 : w7.cell? ⟨w.heap.size, 4, none⟩ = some (.int .i64 (TT xs f 0).col) := by simpa using hTx7.t4 0 h0n
        have hcs : ∀ d c1 c2, Calls Ybaf.prog 9 #[.slice (some ⟨w.heap.size, 0, none⟩) e c1, .slice (some ⟨w.heap.size, 0, none⟩) e c2] (w7.drewN d) fun e w' => e = .returned (.bool true) ∧ ∃ k, w' = (w7.drewN d).drewN k := fun d c1 c2 => csame_any (w7.drewN d) w.heap.size 0 e c1 c2 (TT xs f) (by omega)
          (fun j hj => by simpa using hTx7.t0 j (by omega)) (fun j hj => by simpa using hTx7.t1 j (by omega)) (fun j hj => by simpa using hTx7.t2 j (by omega)) (fun j hj => by simpa using hTx7.t3 j (by omega)) (fun j hj => by simpa using hTx7.t4 j (by omega))
        have HCS : Hid _ := hcs
        have hsl := fun w' => slice_to_toks w' w.heap.size k k e hen
        have h42 := eql42
        have g42 := neq42
        clear HCV HCV2 hgB hgC hgD hg6 hg7 hTx5 hTx6 hTx7 HL HR HL2 HV HV2 hE hE6 f5' f6' hcs
        generalize (TT xs f 0).file = fl0 at *
        generalize (TT xs f 0).line = ln0 at *
        generalize (TT xs f 0).col = co0 at *
        go_wp2_with fail
        try simp only [List.append]
        go_quiet ((go_at_call 9; exact Calls.quiet_of (HCS.out _ _ _)))
        go_wp2
        go_ret
        exact ⟨rfl, below_drewN hBel _⟩
      · have d0 := hTx6.t0 (e + 1) hej
        generalize (TT xs f (e + 1)).kind = kj at *
        go_wp2_with fail
        refine Calls.mono (HCV2.out _ hTx6) ?_
        rintro e' w7 ⟨rfl, hg7⟩
        have hTx7 := hTx6.later hg7 (by simp)
        have hE7 := hE6.later hg7 (by simp)
        have hgD := grown_trans hgC (grown_some hg7 (some wr.heap.size))
        have hBel : Below w.heap.size w w7 := ⟨hgD.os, hgD.tape, hgD.output, hgD.size, fun b hb => hgD.block b hb (by intro e; simp at e; omega)⟩
        obtain ⟨_, f0, f1, f2, f3, f4, f5', f6', f7, f8, f9, f10, _⟩ := hE7
        have f5 : w7.cell? ⟨E, 5, none⟩ = some (.slice (some ⟨w.heap.size, 0, none⟩) e k) := by simpa using f5'
        have f6 := f6'
        have x2 : w7.cell? ⟨w.heap.size, 2, none⟩ = some (.string (TT xs f 0).file) := by simpa using hTx7.t2 0 h0n
        have x3 : w7.cell? ⟨w.heap.size, 3, none⟩ = some (.int .i64 (TT xs f 0).line) := by simpa using hTx7.t3 0 h0n
        have x4 : w7.cell? ⟨w.heap.size, 4, none⟩ = some (.int .i64 (TT xs f 0).col) := by simpa using hTx7.t4 0 h0n
        have hcs : ∀ d c1 c2, Calls Ybaf.prog 9 #[.slice (some ⟨w.heap.size, 0, none⟩) e c1, .slice (some ⟨w.heap.size, 0, none⟩) e c2] (w7.drewN d) fun e w' => e = .returned (.bool true) ∧ ∃ k, w' = (w7.drewN d).drewN k := fun d c1 c2 => csame_any (w7.drewN d) w.heap.size 0 e c1 c2 (TT xs f) (by omega)
          (fun j hj => by simpa using hTx7.t0 j (by omega)) (fun j hj => by simpa using hTx7.t1 j (by omega)) (fun j hj => by simpa using hTx7.t2 j (by omega)) (fun j hj => by simpa using hTx7.t3 j (by omega)) (fun j hj => by simpa using hTx7.t4 j (by omega))
        have HCS : Hid _ := hcs
        have hsl := fun w' => slice_to_toks w' w.heap.size k k e hen
        have h42 := eql42
        have g42 := neq42
        clear HCV HCV2 hgB hgC hgD hg6 hg7 hTx5 hTx6 hTx7 HL HR HL2 HV HV2 hE hE6 f5' f6' hcs
        generalize (TT xs f 0).file = fl0 at *
        generalize (TT xs f 0).line = ln0 at *
        generalize (TT xs f 0).col = co0 at *
        go_wp2_with fail
        try simp only [List.append]
        go_quiet ((go_at_call 9; exact Calls.quiet_of (HCS.out _ _ _)))
        go_wp2
        go_ret
        exact ⟨rfl, below_drewN hBel _⟩
      · have d0 := hTx6.t0 (e + 1) hej
        have d1 := hTx6.t1 (e + 1) hej
        generalize (TT xs f (e + 1)).kind = kj at *
        generalize (TT xs f (e + 1)).text = tj at *
        go_wp2_with fail
        refine Calls.mono (HCV2.out _ hTx6) ?_
        rintro e' w7 ⟨rfl, hg7⟩
        have hTx7 := hTx6.later hg7 (by simp)
        have hE7 := hE6.later hg7 (by simp)
        have hgD := grown_trans hgC (grown_some hg7 (some wr.heap.size))
        have hBel : Below w.heap.size w w7 := ⟨hgD.os, hgD.tape, hgD.output, hgD.size, fun b hb => hgD.block b hb (by intro e; simp at e; omega)⟩
        obtain ⟨_, f0, f1, f2, f3, f4, f5', f6', f7, f8, f9, f10, _⟩ := hE7
        have f5 : w7.cell? ⟨E, 5, none⟩ = some (.slice (some ⟨w.heap.size, 0, none⟩) e k) := by simpa using f5'
        have f6 := f6'
        have x2 : w7.cell? ⟨w.heap.size, 2, none⟩ = some (.string (TT xs f 0).file) := by simpa using hTx7.t2 0 h0n
        have x3 : w7.cell? ⟨w.heap.size, 3, none⟩ = some (.int .i64 (TT xs f 0).line) := by simpa using hTx7.t3 0 h0n
        have x4 : w7.cell? ⟨w.heap.size, 4, none⟩ = some (.int .i64 (TT xs f 0).col) := by simpa using hTx7.t4 0 h0n
        have hcs : ∀ d c1 c2, Calls Ybaf.prog 9 #[.slice (some ⟨w.heap.size, 0, none⟩) e c1, .slice (some ⟨w.heap.size, 0, none⟩) e c2] (w7.drewN d) fun e w' => e = .returned (.bool true) ∧ ∃ k, w' = (w7.drewN d).drewN k := fun d c1 c2 => csame_any (w7.drewN d) w.heap.size 0 e c1 c2 (TT xs f) (by omega)
          (fun j hj => by simpa using hTx7.t0 j (by omega)) (fun j hj => by simpa using hTx7.t1 j (by omega)) (fun j hj => by simpa using hTx7.t2 j (by omega)) (fun j hj => by simpa using hTx7.t3 j (by omega)) (fun j hj => by simpa using hTx7.t4 j (by omega))
        have HCS : Hid _ := hcs
        have hsl := fun w' => slice_to_toks w' w.heap.size k k e hen
        have h42 := eql42
        have g42 := neq42
        clear HCV HCV2 hgB hgC hgD hg6 hg7 hTx5 hTx6 hTx7 HL HR HL2 HV HV2 hE hE6 f5' f6' hcs
        generalize (TT xs f 0).file = fl0 at *
        generalize (TT xs f 0).line = ln0 at *
        generalize (TT xs f 0).col = co0 at *
        go_wp2_with fail
        try simp only [List.append]
        go_quiet ((go_at_call 9; exact Calls.quiet_of (HCS.out _ _ _)))
        go_wp2
        go_ret
        exact ⟨rfl, below_drewN hBel _⟩

end Go.Proofs.YbulkstgFmt.Tk
