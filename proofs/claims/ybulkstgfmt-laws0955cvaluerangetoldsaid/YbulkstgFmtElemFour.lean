import Derived.Test.YbulkstgFmtElemThree
namespace Go.Proofs.YbulkstgFmt.Tk
open Go Go.RowKit
open Go.Extern.Stop Go.Stop Go.Extern

set_option maxHeartbeats 2000000 in
theorem elem_rng_err (F : Interp) (w : World) (B g n c i i' : Nat) (T : Nat → Tok) (lo hi : Bool) (hF : F.answers w.tape) (h : Ps w B g n c T i) (hv : ValueOk B g n c T i i') (hkw : NoKw (tokAt n T i)) (hlt : tis (tokAt n T i') ⟨#[60]⟩ = lo) (hr : (tokAt n T (i' + lo.toNat)).kind = 6)
    (hlt2 : tis (tokAt n T (i' + lo.toNat + 1)) ⟨#[60]⟩ = hi) (hv2 : ValueErr F B g n c T (i' + lo.toNat + 1 + hi.toNat)) :
    Calls Ybaf.prog 7 #[.pointer (some ⟨B, 0, none⟩)] w fun e w' => ∃ E X, e = .returned (.tuple #[.pointer (some ⟨E, 0, none⟩), .iface 50 (.pointer (some ⟨X, 0, none⟩))]) ∧ w.heap.size ≤ E ∧
      El w' E 1 (tokAt n T i).file (tokAt n T i).line (tokAt n T i).col (.slice none 0 0) (.slice (some ⟨g, i * 5, none⟩) (i' - i) (c - i)) (.slice none 0 0) lo hi (.pointer none) (.pointer none) ∧ w.grownBy w' (some B) := by
  have hBw := h.hB
  have hac := fun w h => accept_any w B g n c i' T ⟨#[60]⟩ lo h hlt
  have hac2 := fun w h => accept_any w B g n c (i' + lo.toNat + 1) T ⟨#[60]⟩ hi h hlt2
  have hnx := fun w h => next_any w B g n c (i' + lo.toNat) T h (by rw [hr]; decide)
  have hpk := fun w h => peek_any w B g n c (i' + lo.toNat) T h
  have HLT : Hid _ := hac
  have HLT2 : Hid _ := hac2
  have HNX : Hid _ := hnx
  have HPK : Hid _ := hpk
  have hk6 : ((tokAt n T (i' + lo.toNat)).kind != 6) = false := by simp [hr]
  have hf0 := field0 (tokAt n T (i' + lo.toNat))
  have HV2 : Hid _ := hv2
  clear hac hac2 hnx hpk hlt hlt2 hr hv2
  generalize tokAt n T (i' + lo.toNat) = t6 at HNX HPK hk6 hf0
  generalize ht : tokAt n T i = t at *
  have HT : Hid _ := ht
  clear ht
  go_enter Ybaf.func7, Ybaf.ntmps7
  go_wp2_with fail
  refine (peek_any _ B g n c i T h).mono ?_
  rw [HT.out]
  rintro e w1 ⟨rfl, hg⟩
  have hP := h.later hg
  go_wp2_with fail
  refine (is_any t _ false _ hkw.k0).mono ?_
  rintro e w2 ⟨rfl, o0, rfl⟩
  go_wp2_with fail
  refine (is_any t _ false _ hkw.k1).mono ?_
  rintro e w2 ⟨rfl, o1, rfl⟩
  go_wp2_with fail
  refine (is_any t _ false _ hkw.k2).mono ?_
  rintro e w2 ⟨rfl, o2, rfl⟩
  go_wp2_with fail
  refine (is_any t _ false _ hkw.k3).mono ?_
  rintro e w2 ⟨rfl, o3, rfl⟩
  go_wp2_with fail
  refine (is_any t _ false _ hkw.k4).mono ?_
  rintro e w2 ⟨rfl, o4, rfl⟩
  go_wp2_with fail
  refine (is_any t _ false _ hkw.k5).mono ?_
  rintro e w2 ⟨rfl, o5, rfl⟩
  go_wp2_with fail
  refine (is_any t _ false _ hkw.k6).mono ?_
  rintro e w2 ⟨rfl, o6, rfl⟩
  go_wp2_with fail
  have hPx := ((((((((hP.later (World.grownBy_alloc _ (.cells #[.int .i64 t.kind, .string t.text, .string t.file, .int .i64 t.line, .int .i64 t.col] 28) _)).later (World.grownBy_alloc _ o0 _)).later (World.grownBy_alloc _ o1 _)).later (World.grownBy_alloc _ o2 _)).later (World.grownBy_alloc _ o3 _)).later (World.grownBy_alloc _ o4 _)).later (World.grownBy_alloc _ o5 _)).later (World.grownBy_alloc _ o6 _))
  have hgx := grown_alloc (grown_alloc (grown_alloc (grown_alloc (grown_alloc (grown_alloc (grown_alloc (grown_alloc hg (.cells #[.int .i64 t.kind, .string t.text, .string t.file, .int .i64 t.line, .int .i64 t.col] 28)) o0) o1) o2) o3) o4) o5) o6
  have hC : C5 _ w1.heap.size _ _ _ _ _ := (C5.new w1 (.int .i64 t.kind) (.string t.text) (.string t.file) (.int .i64 t.line) (.int .i64 t.col) 28).later (grown_alloc (grown_alloc (grown_alloc (grown_alloc (grown_alloc (grown_alloc (grown_alloc (grown_refl _ none) o0) o1) o2) o3) o4) o5) o6) (by simp)
  have hb1 : w.heap.size ≤ w1.heap.size := hg.size
  refine (hv _ hPx).mono ?_
  rintro e w4 ⟨rfl, hg4, hP4⟩
  have hC4 := hC.later hg4 (by intro e; simp at e; omega)
  have hg5 := grown_trans (grown_some hgx (some B)) hg4
  clear hPx hgx hC hP hg4 hg h hv hkw
  generalize w1.heap.size = b1 at *
  obtain ⟨cl, u0, u1, u2, u3, u4, _⟩ := hC4
  have hB4 := hP4.hB
  have hg4' := hP4.hg
  have hsz : w.heap.size ≤ w4.heap.size := hg5.size
  go_wp2_with fail
  refine (HLT.out _ (hP4.later (World.grownBy_alloc _ _ _))).mono ?_
  rintro e w5 ⟨rfl, hg6, hP5⟩
  have neB : some w4.heap.size ≠ some B := by intro e; simp at e; omega
  have hE := (El.new w4 0 t.file t.line t.col (.slice (some ⟨g, i * 5, none⟩) (i' - i) (c - i)) (.slice none 0 0) (.slice none 0 0) false false (.pointer none) (.pointer none) 46).later hg6 neB
  have hg7 := grown_trans (grown_alloc hg5 _) hg6
  have nB : w4.heap.size ≠ B := by omega
  have nG : w4.heap.size ≠ g := by omega
  have d7 := hE.e7
  have df := hE.fz 7
  clear hg6 hg5 HLT hP4
  go_wp2_with fail
  have hE6 := hE.set7 lo
  have hP6 := hP5.other ⟨w4.heap.size, 7, none⟩ (.bool lo) nB nG
  have hg8 := grown_set hg7 ⟨w4.heap.size, 7, none⟩ (.bool lo) (Or.inl hsz)
  clear hE hP5 hg7 d7 df
  generalize w5.setCell ⟨w4.heap.size, 7, none⟩ (.bool lo) = w6 at *
  generalize w4.heap.size = E at *
  refine (HPK.out _ hP6).mono ?_
  rintro e w7 ⟨rfl, hg9⟩
  have hE7 := hE6.later hg9 (by simp)
  have hP7 := hP6.later hg9
  have hgA := grown_trans hg8 (grown_some hg9 (some B))
  clear hE6 hP6 hg8 hg9
  go_wp2_with fail
  refine (HNX.out _ hP7).mono ?_
  rintro e w8 ⟨rfl, hg10, hP8⟩
  have hE8 := hE7.later hg10 neB
  have hgB := grown_trans hgA hg10
  clear hE7 hP7 hgA hg10 HPK HNX hf0
  have k0 := hE8.e0
  have k5 := hE8.e5
  have k4 := hE8.e4
  have f0 := hE8.fz 0
  have f5 := hE8.fz 5
  have f4 := hE8.fz 4
  go_wp2_with fail
  have hE9 := ((hE8.set0 1).set5 (.slice (some ⟨g, i * 5, none⟩) (i' - i) (c - i))).set4 (.slice none 0 0)
  have hP9 := ((hP8.other ⟨E, 0, none⟩ (.int .i64 1) nB nG).other ⟨E, 5, none⟩ (.slice (some ⟨g, i * 5, none⟩) (i' - i) (c - i)) nB nG).other ⟨E, 4, none⟩ (.slice none 0 0) nB nG
  have hgC := grown_set (grown_set (grown_set hgB ⟨E, 0, none⟩ (.int .i64 1) (Or.inl hsz)) ⟨E, 5, none⟩ (.slice (some ⟨g, i * 5, none⟩) (i' - i) (c - i)) (Or.inl hsz)) ⟨E, 4, none⟩ (.slice none 0 0) (Or.inl hsz)
  clear hE8 hP8 hgB k0 k5 k4 f0 f5 f4
  generalize ((w8.setCell ⟨E, 0, none⟩ (.int .i64 1)).setCell ⟨E, 5, none⟩ (.slice (some ⟨g, i * 5, none⟩) (i' - i) (c - i))).setCell ⟨E, 4, none⟩ (.slice none 0 0) = w9 at *
  refine (HLT2.out _ hP9).mono ?_
  rintro e w10 ⟨rfl, hg11, hP10⟩
  have hE10 := hE9.later hg11 neB
  have hgD := grown_trans hgC hg11
  have k8 := hE10.e8
  have f8 := hE10.fz 8
  clear hE9 hP9 hgC hg11 HLT2
  go_wp2_with fail
  have hE11 := hE10.set8 hi
  have hP11 := hP10.other ⟨E, 8, none⟩ (.bool hi) nB nG
  have hgE := grown_set hgD ⟨E, 8, none⟩ (.bool hi) (Or.inl hsz)
  clear hE10 hP10 hgD k8 f8
  generalize w10.setCell ⟨E, 8, none⟩ (.bool hi) = w11 at *
  have hFz : F.answers w11.tape := by rw [hgE.tape]; exact hF
  refine (HV2.out _ hFz hP11).mono ?_
  rintro e w12 ⟨X, rfl, hg12⟩
  have hE12 := hE11.later hg12 neB
  have hgF := grown_trans hgE hg12
  have k6 := hE12.e6
  have f6 := hE12.fz 6
  clear hE11 hP11 hgE hg12 HV2
  go_wp2
  go_ret2
  exact ⟨E, X, rfl, hsz, hE12.set6 _, grown_set hgF _ _ (Or.inl hsz)⟩

set_option maxHeartbeats 2000000 in
theorem elem_loerr (F : Interp) (w : World) (B g n c i i' : Nat) (T : Nat → Tok) (hF : F.answers w.tape) (h : Ps w B g n c T i) (hv : ValueOk B g n c T i i') (hkw : NoKw (tokAt n T i)) (hlt : tis (tokAt n T i') ⟨#[60]⟩ = true) (hr : (tokAt n T (i' + 1)).kind ≠ 6) :
    Calls Ybaf.prog 7 #[.pointer (some ⟨B, 0, none⟩)] w fun e w' => ∃ X, e = .returned (.tuple #[.pointer none, .iface 50 (.pointer (some ⟨X, 0, none⟩))]) ∧ w.grownBy w' (some B) := by
  have hBw := h.hB
  obtain ⟨lo, hlo⟩ : ∃ lo : Bool, lo = true := ⟨true, rfl⟩
  have hac := fun w h => accept_any w B g n c i' T ⟨#[60]⟩ true h hlt
  rw [← hlo] at hac
  have hpk := fun w h => peek_any w B g n c (i' + 1) T h
  rw [show i' + 1 = i' + (true).toNat from rfl, ← hlo] at hpk
  have HLT : Hid _ := hac
  have HPK : Hid _ := hpk
  have HLO : Hid _ := hlo
  have hk6 : ((tokAt n T (i' + lo.toNat)).kind != 6) = true := by subst hlo; simpa using hr
  have hf0 := field0 (tokAt n T (i' + 1))
  have hf2 := field2 (tokAt n T (i' + 1))
  rw [show i' + 1 = i' + (true).toNat from rfl, ← hlo] at hf0 hf2
  clear hac hpk hlt hr hlo
  generalize tokAt n T (i' + lo.toNat) = t6 at HPK hk6 hf0 hf2
  have HK6 : Hid _ := hk6
  clear hk6
  generalize ht : tokAt n T i = t at *
  have HT : Hid _ := ht
  clear ht
  go_enter Ybaf.func7, Ybaf.ntmps7
  go_wp2_with fail
  refine (peek_any _ B g n c i T h).mono ?_
  rw [HT.out]
  rintro e w1 ⟨rfl, hg⟩
  have hP := h.later hg
  go_wp2_with fail
  refine (is_any t _ false _ hkw.k0).mono ?_
  rintro e w2 ⟨rfl, o0, rfl⟩
  go_wp2_with fail
  refine (is_any t _ false _ hkw.k1).mono ?_
  rintro e w2 ⟨rfl, o1, rfl⟩
  go_wp2_with fail
  refine (is_any t _ false _ hkw.k2).mono ?_
  rintro e w2 ⟨rfl, o2, rfl⟩
  go_wp2_with fail
  refine (is_any t _ false _ hkw.k3).mono ?_
  rintro e w2 ⟨rfl, o3, rfl⟩
  go_wp2_with fail
  refine (is_any t _ false _ hkw.k4).mono ?_
  rintro e w2 ⟨rfl, o4, rfl⟩
  go_wp2_with fail
  refine (is_any t _ false _ hkw.k5).mono ?_
  rintro e w2 ⟨rfl, o5, rfl⟩
  go_wp2_with fail
  refine (is_any t _ false _ hkw.k6).mono ?_
  rintro e w2 ⟨rfl, o6, rfl⟩
  go_wp2_with fail
  have hPx := ((((((((hP.later (World.grownBy_alloc _ (.cells #[.int .i64 t.kind, .string t.text, .string t.file, .int .i64 t.line, .int .i64 t.col] 28) _)).later (World.grownBy_alloc _ o0 _)).later (World.grownBy_alloc _ o1 _)).later (World.grownBy_alloc _ o2 _)).later (World.grownBy_alloc _ o3 _)).later (World.grownBy_alloc _ o4 _)).later (World.grownBy_alloc _ o5 _)).later (World.grownBy_alloc _ o6 _))
  have hgx := grown_alloc (grown_alloc (grown_alloc (grown_alloc (grown_alloc (grown_alloc (grown_alloc (grown_alloc hg (.cells #[.int .i64 t.kind, .string t.text, .string t.file, .int .i64 t.line, .int .i64 t.col] 28)) o0) o1) o2) o3) o4) o5) o6
  have hC : C5 _ w1.heap.size _ _ _ _ _ := (C5.new w1 (.int .i64 t.kind) (.string t.text) (.string t.file) (.int .i64 t.line) (.int .i64 t.col) 28).later (grown_alloc (grown_alloc (grown_alloc (grown_alloc (grown_alloc (grown_alloc (grown_alloc (grown_refl _ none) o0) o1) o2) o3) o4) o5) o6) (by simp)
  have hb1 : w.heap.size ≤ w1.heap.size := hg.size
  refine (hv _ hPx).mono ?_
  rintro e w4 ⟨rfl, hg4, hP4⟩
  have hC4 := hC.later hg4 (by intro e; simp at e; omega)
  have hg5 := grown_trans (grown_some hgx (some B)) hg4
  clear hPx hgx hC hP hg4 hg h hv hkw
  generalize w1.heap.size = b1 at *
  obtain ⟨cl, u0, u1, u2, u3, u4, _⟩ := hC4
  have hB4 := hP4.hB
  have hg4' := hP4.hg
  have hsz : w.heap.size ≤ w4.heap.size := hg5.size
  go_wp2_with fail
  refine (HLT.out _ (hP4.later (World.grownBy_alloc _ _ _))).mono ?_
  rintro e w5 ⟨rfl, hg6, hP5⟩
  have neB : some w4.heap.size ≠ some B := by intro e; simp at e; omega
  have hE := (El.new w4 0 t.file t.line t.col (.slice (some ⟨g, i * 5, none⟩) (i' - i) (c - i)) (.slice none 0 0) (.slice none 0 0) false false (.pointer none) (.pointer none) 46).later hg6 neB
  have hg7 := grown_trans (grown_alloc hg5 _) hg6
  have nB : w4.heap.size ≠ B := by omega
  have nG : w4.heap.size ≠ g := by omega
  have d7 := hE.e7
  have df := hE.fz 7
  clear hg6 hg5 HLT hP4
  go_wp2_with fail
  have hE6 := hE.set7 lo
  have hP6 := hP5.other ⟨w4.heap.size, 7, none⟩ (.bool lo) nB nG
  have hg8 := grown_set hg7 ⟨w4.heap.size, 7, none⟩ (.bool lo) (Or.inl hsz)
  clear hE hP5 hg7 d7 df
  generalize w5.setCell ⟨w4.heap.size, 7, none⟩ (.bool lo) = w6 at *
  generalize w4.heap.size = E at *
  have hE6' := hE6
  rw [HLO.out] at hE6'
  refine (HPK.out _ hP6).mono ?_
  rintro e w7 ⟨rfl, hg9⟩
  have hE7 := hE6'.later hg9 (by simp)
  have hP7 := hP6.later hg9
  have hgA := grown_trans hg8 (grown_some hg9 (some B))
  have k7 := hE7.e7
  clear hE6 hE6' hP6 hg8 hg9
  have hk6 := HK6.out
  go_wp2_with fail
  refine (HPK.out _ hP7).mono ?_
  rintro e w8 ⟨rfl, hg10⟩
  have hP8 := hP7.later hg10
  have hgB := grown_trans hgA (grown_some hg10 (some B))
  go_wp2_with fail
  refine (HPK.out _ hP8).mono ?_
  rintro e w9 ⟨rfl, hg11⟩
  have hgC := grown_trans hgB (grown_some hg11 (some B))
  have hF9 : F.answers w9.tape := by rw [hgC.tape]; exact hF
  clear hE7 hP7 hgA hg10 hP8 hgB hg11 HPK k7
  go_wp2_with fail
  refine (describe_any F t6 _ hF9).mono ?_
  rintro e w10 ⟨s, rfl, hg12⟩
  have hgD := grown_trans hgC (grown_some hg12 (some B))
  have hF10 : F.answers w10.tape := by rw [hgD.tape]; exact hF
  go_wp2_with fail
  refine (errorf_rng F _ _ _ _ w10.heap.size s (by exact hF10) (by simp) (World.cell?_alloc_at _ _ _ _ rfl)).mono ?_
  rintro e w11 ⟨X, rfl, hg13⟩
  have hgE := grown_trans (grown_alloc hgD _) (grown_some hg13 (some B))
  clear hgC hgD hg12 hg13
  go_wp2
  go_ret2
  exact ⟨X, rfl, hgE⟩

end Go.Proofs.YbulkstgFmt.Tk
