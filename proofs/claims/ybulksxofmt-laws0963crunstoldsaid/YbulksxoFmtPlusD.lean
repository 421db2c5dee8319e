import Derived.Test.YbulksxoFmtPlus
namespace Go.Proofs.YbulksxoFmt.Bx
open Go Go.RowKit

/-- newEntryBox, its numbers written out. -/
theorem new_at (w : World) (B : Nat) (f k n : Nat) (x0 x1 x2 x3 yf yk yn y4 : Int) (hf : f ≤ 10) (hk : k ≤ 10) (hB : B ≤ w.heap.size) (hn : 16 + 4 * f = n) (h1 : yf = (f : Int)) (h2 : yk = (k : Int)) (h3 : yn = (n : Int)) (h4 : y4 = 4 * (k : Int)) :
    Calls Ybaf.prog 8 #[.agg #[.int .u8 x0, .int .u8 x1, .int .u8 x2, .int .u8 x3], .int .i64 yf, .int .i64 yk] w fun e w' => ∃ g, w.heap.size ≤ g ∧ e = .returned (.agg #[.slice (some ⟨g, 0, none⟩) n n, .int .i64 yn, .int .i64 y4, .int .u32 0]) ∧ w'.ownsRow B 5 1 (.slice (some ⟨g, 0, none⟩) n n) n (((((List.replicate n (Value.int .u8 0)).set 4 (.int .u8 x0)).set 5 (.int .u8 x1)).set 6 (.int .u8 x2)).set 7 (.int .u8 x3)) ∧ w.grownBy w' none := by
  subst h1 h2 h3 h4
  exact new_any w B f k x0 x1 x2 x3 hf hk hB n hn

theorem Kp.new4 {w w1 : World} (B b o1 o2 o3 o4 : Nat) (v1 v2 v3 v4 : Value) (hg : w.grownBy w1 none) : Kp w ((((w1.setCell ⟨b, o1, none⟩ v1).setCell ⟨b, o2, none⟩ v2).setCell ⟨b, o3, none⟩ v3).setCell ⟨b, o4, none⟩ v4) B b :=
  ((((Kp.grown B b hg).trans (Kp.set _ B b o1 v1)).trans (Kp.set _ B b o2 v2)).trans (Kp.set _ B b o3 v3)).trans (Kp.set _ B b o4 v4)

/-- Add's last stores. -/
theorem tail_bs2 {w : World} {B b cnt clen cent cend e4 : Nat} {O : List Nat} {X : Nat → Bxd} {f : Nat → Value} (h : Bs w B b O X f) (f12 : f 12 = .slice none 0 0) (f29 : f 29 = .int .u32 (cent : Int)) (he4 : e4 ≤ 10000000) (y28 y30 y0 y2 : Int) (h28 : y28 = (clen : Int)) (h30 : y30 = (cend : Int)) (h0 : y0 = (cnt : Int)) (h2 : y2 = 0) :
    ∃ f', Bs ((((((w.setCell ⟨b, 28, none⟩ (.int .u32 y28)).setCell ⟨b, 30, none⟩ (.int .i64 y30)).setCell ⟨b, 0, none⟩ (.int .u32 y0)).setCell ⟨b, 1, none⟩ (.int .u64 y0)).setCell ⟨b, 2, none⟩ (.int .i64 y2)).setCell ⟨b, 3, none⟩ (.int .i64 (e4 : Int))).drew.drew.drew B b O X f' ∧ Sv f' cnt clen cent cend ∧ Kp w ((((((w.setCell ⟨b, 28, none⟩ (.int .u32 y28)).setCell ⟨b, 30, none⟩ (.int .i64 y30)).setCell ⟨b, 0, none⟩ (.int .u32 y0)).setCell ⟨b, 1, none⟩ (.int .u64 y0)).setCell ⟨b, 2, none⟩ (.int .i64 y2)).setCell ⟨b, 3, none⟩ (.int .i64 (e4 : Int))).drew.drew.drew B b := by
  subst h28 h30 h0 h2
  refine ⟨_, ((((((h.set 28 (by unfold Sp; omega) _).set 30 (by unfold Sp; omega) _).set 0 (by unfold Sp; omega) _).set 1 (by unfold Sp; omega) _).set 2 (by unfold Sp; omega) _).set 3 (by unfold Sp; omega) _).drew.drew.drew, ⟨by simp [updv], by simp [updv], by simp [updv], ⟨e4, by simp [updv], he4⟩, by simp [updv, f12], by simp [updv], by simp [updv, f29], by simp [updv]⟩, ?_⟩
  exact ((((((Kp.set w B b 28 _).trans (Kp.set _ B b 30 _)).trans (Kp.set _ B b 0 _)).trans (Kp.set _ B b 1 _)).trans (Kp.set _ B b 2 _)).trans (Kp.set _ B b 3 _)).drew.drew.drew

set_option maxHeartbeats 4000000 in
set_option maxRecDepth 100000 in
/-- Add of the first sample: the boxes are made. -/
theorem plus_first (w : World) (B b cnt clen cent cend size pos ent e1 : Nat) (X0 : Nat → Bxd) (f : Nat → Value) (h : Bs w B b [] X0 f) (hv : Sv f cnt clen cent cend) (hc0 : cnt = 0) (hl : clen = 0) (hce : cent = 0) (hp : pos ≤ 1000000) (hz : size ≤ 255) (he : ent ≤ 2) (hent : max ent 1 = e1) (h4 : 4 < B)
    (hG0 : Gl w 0 115 116 116 115) (hG1 : Gl w 1 99 116 116 115) (hG2 : Gl w 2 115 116 115 122) (hG3 : Gl w 3 115 116 115 99) (hG4 : Gl w 4 115 116 99 111) :
    Calls Ybaf.prog 4 #[.pointer (some ⟨b, 0, none⟩), .agg #[.int .i64 (cnt : Int), .int .i64 (cnt : Int), .int .u32 1, .int .u32 (size : Int), .int .i64 (pos : Int), .bool true, .int .u32 (ent : Int)]] w fun e w' => e = .returned .nilIface ∧ ∃ X' f', Bs w' B b O5 X' f' ∧ Sv f' (cnt + 1) 1 e1 (pos + size) ∧ (X' 20).L = [] ∧ (X' 24).N = 1 ∧ Stco (X' 24).hd ∧ (∀ o ∈ O5, (X' o).N ≤ 1) ∧ Kp w w' B b := by
  obtain ⟨e3, he3, he3b⟩ := hv.s3
  have hbl := h.kt.lt
  have hS := Sm.new w cnt size pos ent
  have hB1 := h.grown (World.grownBy_alloc w (.cells #[.int .i64 (cnt : Int), .int .i64 (cnt : Int), .int .u32 1, .int .u32 (size : Int), .int .i64 (pos : Int), .bool true, .int .u32 (ent : Int)] 33) none)
  have hK1 := Kp.grown B b (World.grownBy_alloc w (.cells #[.int .i64 (cnt : Int), .int .i64 (cnt : Int), .int .u32 1, .int .u32 (size : Int), .int .i64 (pos : Int), .bool true, .int .u32 (ent : Int)] 33) none)
  have c0 := hv.s0 ▸ h.sc 0 (by unfold Sp; omega)
  have c1 := hv.s1 ▸ h.sc 1 (by unfold Sp; omega)
  have hcle : cnt ≤ 2000 := by omega
  have d0 : ((cnt : Int) == 357913939) = false := by simp; omega
  have d1 : ((cnt : Int) == 0) = true := by simp; omega
  have w1 : IntKind.i64.wrap (cnt : Int) = (cnt : Int) := by rw [IntKind.wrap_i64]; omega
  have hsb : w.heap.size ≠ b := by omega
  have HC0 : Hid _ := hc0
  have HL0 : Hid _ := hl
  have HE0 : Hid _ := hce
  clear hc0 hl hce
  go_enter Ybaf.func4, Ybaf.ntmps4
  go_wp2_with fail
  generalize hsz : w.heap.size = S at *
  have hS0 := hS.s0
  have k1 := hv.s1 ▸ hB1.sc 1 (by unfold Sp; omega)
  clear c0 c1
  generalize w.alloc (.cells #[.int .i64 (cnt : Int), .int .i64 (cnt : Int), .int .u32 1, .int .u32 (size : Int), .int .i64 (pos : Int), .bool true, .int .u32 (ent : Int)] 33) = W1 at *
  go_quiet (fail)
  have hB2 := hB1.grown (grown_drewN (grown_refl W1 none) nq)
  have hK2 := hK1.trans (Kp.grown B b (grown_drewN (grown_refl W1 none) nq))
  have hS2 := hS.kept (Kp.grown B b (grown_drewN (grown_refl W1 none) nq)) hsb
  clear hB1 hK1 hS hS0 k1
  generalize W1.drewN nq = W2 at *
  have k0 := hv.s0 ▸ hB2.sc 0 (by unfold Sp; omega)
  obtain ⟨ga, gb, gc, gd⟩ := hG0.kept hK2 (by omega) h.bB
  go_wp2_with fail
  refine (new_at W2 B 0 2 16 115 116 116 115 0 2 16 8 (by omega) (by omega) hB2.hB (by omega) rfl rfl rfl rfl).mono ?_
  rintro e U4 ⟨g4, hg4, rfl, hrow4, hgr4⟩
  have hBu := hB2.grown hgr4
  obtain ⟨u0, c0⟩ := hBu.all 4 (by omega)
  obtain ⟨u1, c1⟩ := hBu.all 5 (by omega)
  obtain ⟨u2, c2⟩ := hBu.all 6 (by omega)
  obtain ⟨u3, c3⟩ := hBu.all 7 (by omega)
  have fz := hBu.fz
  clear ga gb gc gd
  go_upto_region 10 with fail
  have hBn : Bs ((((U4.setCell ⟨b, 4, none⟩ (.slice (some ⟨g4, 0, none⟩) 16 16)).setCell ⟨b, 5, none⟩ (.int .i64 16)).setCell ⟨b, 6, none⟩ (.int .i64 8)).setCell ⟨b, 7, none⟩ (.int .u32 0)) B b [4] (upd X0 4 ⟨g4, 16, 0, (((((List.replicate 16 (Value.int .u8 0)).set 4 (.int .u8 115)).set 5 (.int .u8 116)).set 6 (.int .u8 116)).set 7 (.int .u8 115)), []⟩) f := hB2.new 4 (by decide) (by unfold Ofs; omega) hgr4 g4 16 _ rfl hg4 hrow4 16 8 rfl rfl
  have hKn := Kp.new4 B b 4 5 6 7 (.slice (some ⟨g4, 0, none⟩) 16 16) (.int .i64 16) (.int .i64 8) (.int .u32 0) hgr4
  have hSn := hS2.kept hKn hsb
  have hKV4 := hK2.trans hKn
  clear hBu c0 c1 c2 c3 fz hB2 hK2 hS2 hKn hrow4 hgr4 hg4
  generalize (((U4.setCell ⟨b, 4, none⟩ (.slice (some ⟨g4, 0, none⟩) 16 16)).setCell ⟨b, 5, none⟩ (.int .i64 16)).setCell ⟨b, 6, none⟩ (.int .i64 8)).setCell ⟨b, 7, none⟩ (.int .u32 0) = V4 at *
  generalize hXn4 : upd X0 4 ⟨g4, 16, 0, (((((List.replicate 16 (Value.int .u8 0)).set 4 (.int .u8 115)).set 5 (.int .u8 116)).set 6 (.int .u8 116)).set 7 (.int .u8 115)), []⟩ = Y4 at *
  have hBV4 := hBn
  have hSV4 := hSn
  clear hBn hSn
  obtain ⟨ga, gb, gc, gd⟩ := hG1.kept hKV4 (by omega) h.bB
  go_wp2_with fail
  refine (new_at V4 B 0 2 16 99 116 116 115 0 2 16 8 (by omega) (by omega) hBV4.hB (by omega) rfl rfl rfl rfl).mono ?_
  rintro e U8 ⟨g8, hg8, rfl, hrow8, hgr8⟩
  have hBu := hBV4.grown hgr8
  obtain ⟨u0, c0⟩ := hBu.all 8 (by omega)
  obtain ⟨u1, c1⟩ := hBu.all 9 (by omega)
  obtain ⟨u2, c2⟩ := hBu.all 10 (by omega)
  obtain ⟨u3, c3⟩ := hBu.all 11 (by omega)
  have fz := hBu.fz
  clear ga gb gc gd
  go_upto_region 11 with fail
  have hBn : Bs ((((U8.setCell ⟨b, 8, none⟩ (.slice (some ⟨g8, 0, none⟩) 16 16)).setCell ⟨b, 9, none⟩ (.int .i64 16)).setCell ⟨b, 10, none⟩ (.int .i64 8)).setCell ⟨b, 11, none⟩ (.int .u32 0)) B b [8, 4] (upd Y4 8 ⟨g8, 16, 0, (((((List.replicate 16 (Value.int .u8 0)).set 4 (.int .u8 99)).set 5 (.int .u8 116)).set 6 (.int .u8 116)).set 7 (.int .u8 115)), []⟩) f := hBV4.new 8 (by decide) (by unfold Ofs; omega) hgr8 g8 16 _ rfl hg8 hrow8 16 8 rfl rfl
  have hKn := Kp.new4 B b 8 9 10 11 (.slice (some ⟨g8, 0, none⟩) 16 16) (.int .i64 16) (.int .i64 8) (.int .u32 0) hgr8
  have hSn := hSV4.kept hKn hsb
  have hKV8 := hKV4.trans hKn
  clear hBu c0 c1 c2 c3 fz hBV4 hKV4 hSV4 hKn hrow8 hgr8 hg8
  generalize (((U8.setCell ⟨b, 8, none⟩ (.slice (some ⟨g8, 0, none⟩) 16 16)).setCell ⟨b, 9, none⟩ (.int .i64 16)).setCell ⟨b, 10, none⟩ (.int .i64 8)).setCell ⟨b, 11, none⟩ (.int .u32 0) = V8 at *
  generalize hXn8 : upd Y4 8 ⟨g8, 16, 0, (((((List.replicate 16 (Value.int .u8 0)).set 4 (.int .u8 99)).set 5 (.int .u8 116)).set 6 (.int .u8 116)).set 7 (.int .u8 115)), []⟩ = Y8 at *
  have hBV8 := hBn
  have hSV8 := hSn
  clear hBn hSn
  obtain ⟨ga, gb, gc, gd⟩ := hG2.kept hKV8 (by omega) h.bB
  go_wp2_with fail
  refine (new_at V8 B 1 1 20 115 116 115 122 1 1 20 4 (by omega) (by omega) hBV8.hB (by omega) rfl rfl rfl rfl).mono ?_
  rintro e U16 ⟨g16, hg16, rfl, hrow16, hgr16⟩
  have hBu := hBV8.grown hgr16
  obtain ⟨u0, c0⟩ := hBu.all 16 (by omega)
  obtain ⟨u1, c1⟩ := hBu.all 17 (by omega)
  obtain ⟨u2, c2⟩ := hBu.all 18 (by omega)
  obtain ⟨u3, c3⟩ := hBu.all 19 (by omega)
  have fz := hBu.fz
  clear ga gb gc gd
  go_upto_region 12 with fail
  have hBn : Bs ((((U16.setCell ⟨b, 16, none⟩ (.slice (some ⟨g16, 0, none⟩) 20 20)).setCell ⟨b, 17, none⟩ (.int .i64 20)).setCell ⟨b, 18, none⟩ (.int .i64 4)).setCell ⟨b, 19, none⟩ (.int .u32 0)) B b [16, 8, 4] (upd Y8 16 ⟨g16, 20, 0, (((((List.replicate 20 (Value.int .u8 0)).set 4 (.int .u8 115)).set 5 (.int .u8 116)).set 6 (.int .u8 115)).set 7 (.int .u8 122)), []⟩) f := hBV8.new 16 (by decide) (by unfold Ofs; omega) hgr16 g16 20 _ rfl hg16 hrow16 20 4 rfl rfl
  have hKn := Kp.new4 B b 16 17 18 19 (.slice (some ⟨g16, 0, none⟩) 20 20) (.int .i64 20) (.int .i64 4) (.int .u32 0) hgr16
  have hSn := hSV8.kept hKn hsb
  have hKV16 := hKV8.trans hKn
  clear hBu c0 c1 c2 c3 fz hBV8 hKV8 hSV8 hKn hrow16 hgr16 hg16
  generalize (((U16.setCell ⟨b, 16, none⟩ (.slice (some ⟨g16, 0, none⟩) 20 20)).setCell ⟨b, 17, none⟩ (.int .i64 20)).setCell ⟨b, 18, none⟩ (.int .i64 4)).setCell ⟨b, 19, none⟩ (.int .u32 0) = V16 at *
  generalize hXn16 : upd Y8 16 ⟨g16, 20, 0, (((((List.replicate 20 (Value.int .u8 0)).set 4 (.int .u8 115)).set 5 (.int .u8 116)).set 6 (.int .u8 115)).set 7 (.int .u8 122)), []⟩ = Y16 at *
  have hBV16 := hBn
  have hSV16 := hSn
  clear hBn hSn
  obtain ⟨ga, gb, gc, gd⟩ := hG3.kept hKV16 (by omega) h.bB
  go_wp2_with fail
  refine (new_at V16 B 0 3 16 115 116 115 99 0 3 16 12 (by omega) (by omega) hBV16.hB (by omega) rfl rfl rfl rfl).mono ?_
  rintro e U20 ⟨g20, hg20, rfl, hrow20, hgr20⟩
  have hBu := hBV16.grown hgr20
  obtain ⟨u0, c0⟩ := hBu.all 20 (by omega)
  obtain ⟨u1, c1⟩ := hBu.all 21 (by omega)
  obtain ⟨u2, c2⟩ := hBu.all 22 (by omega)
  obtain ⟨u3, c3⟩ := hBu.all 23 (by omega)
  have fz := hBu.fz
  clear ga gb gc gd
  go_upto_region 13 with fail
  have hBn : Bs ((((U20.setCell ⟨b, 20, none⟩ (.slice (some ⟨g20, 0, none⟩) 16 16)).setCell ⟨b, 21, none⟩ (.int .i64 16)).setCell ⟨b, 22, none⟩ (.int .i64 12)).setCell ⟨b, 23, none⟩ (.int .u32 0)) B b [20, 16, 8, 4] (upd Y16 20 ⟨g20, 16, 0, (((((List.replicate 16 (Value.int .u8 0)).set 4 (.int .u8 115)).set 5 (.int .u8 116)).set 6 (.int .u8 115)).set 7 (.int .u8 99)), []⟩) f := hBV16.new 20 (by decide) (by unfold Ofs; omega) hgr20 g20 16 _ rfl hg20 hrow20 16 12 rfl rfl
  have hKn := Kp.new4 B b 20 21 22 23 (.slice (some ⟨g20, 0, none⟩) 16 16) (.int .i64 16) (.int .i64 12) (.int .u32 0) hgr20
  have hSn := hSV16.kept hKn hsb
  have hKV20 := hKV16.trans hKn
  clear hBu c0 c1 c2 c3 fz hBV16 hKV16 hSV16 hKn hrow20 hgr20 hg20
  generalize (((U20.setCell ⟨b, 20, none⟩ (.slice (some ⟨g20, 0, none⟩) 16 16)).setCell ⟨b, 21, none⟩ (.int .i64 16)).setCell ⟨b, 22, none⟩ (.int .i64 12)).setCell ⟨b, 23, none⟩ (.int .u32 0) = V20 at *
  generalize hXn20 : upd Y16 20 ⟨g20, 16, 0, (((((List.replicate 16 (Value.int .u8 0)).set 4 (.int .u8 115)).set 5 (.int .u8 116)).set 6 (.int .u8 115)).set 7 (.int .u8 99)), []⟩ = Y20 at *
  have hBV20 := hBn
  have hSV20 := hSn
  clear hBn hSn
  obtain ⟨ga, gb, gc, gd⟩ := hG4.kept hKV20 (by omega) h.bB
  go_wp2_with fail
  refine (new_at V20 B 0 1 16 115 116 99 111 0 1 16 4 (by omega) (by omega) hBV20.hB (by omega) rfl rfl rfl rfl).mono ?_
  rintro e U24 ⟨g24, hg24, rfl, hrow24, hgr24⟩
  have hBu := hBV20.grown hgr24
  obtain ⟨u0, c0⟩ := hBu.all 24 (by omega)
  obtain ⟨u1, c1⟩ := hBu.all 25 (by omega)
  obtain ⟨u2, c2⟩ := hBu.all 26 (by omega)
  obtain ⟨u3, c3⟩ := hBu.all 27 (by omega)
  have fz := hBu.fz
  clear ga gb gc gd
  go_upto_region 14 with fail
  have hBn : Bs ((((U24.setCell ⟨b, 24, none⟩ (.slice (some ⟨g24, 0, none⟩) 16 16)).setCell ⟨b, 25, none⟩ (.int .i64 16)).setCell ⟨b, 26, none⟩ (.int .i64 4)).setCell ⟨b, 27, none⟩ (.int .u32 0)) B b [24, 20, 16, 8, 4] (upd Y20 24 ⟨g24, 16, 0, (((((List.replicate 16 (Value.int .u8 0)).set 4 (.int .u8 115)).set 5 (.int .u8 116)).set 6 (.int .u8 99)).set 7 (.int .u8 111)), []⟩) f := hBV20.new 24 (by decide) (by unfold Ofs; omega) hgr24 g24 16 _ rfl hg24 hrow24 16 4 rfl rfl
  have hKn := Kp.new4 B b 24 25 26 27 (.slice (some ⟨g24, 0, none⟩) 16 16) (.int .i64 16) (.int .i64 4) (.int .u32 0) hgr24
  have hSn := hSV20.kept hKn hsb
  have hKV24 := hKV20.trans hKn
  clear hBu c0 c1 c2 c3 fz hBV20 hKV20 hSV20 hKn hrow24 hgr24 hg24
  generalize (((U24.setCell ⟨b, 24, none⟩ (.slice (some ⟨g24, 0, none⟩) 16 16)).setCell ⟨b, 25, none⟩ (.int .i64 16)).setCell ⟨b, 26, none⟩ (.int .i64 4)).setCell ⟨b, 27, none⟩ (.int .u32 0) = V24 at *
  generalize hXn24 : upd Y20 24 ⟨g24, 16, 0, (((((List.replicate 16 (Value.int .u8 0)).set 4 (.int .u8 115)).set 5 (.int .u8 116)).set 6 (.int .u8 99)).set 7 (.int .u8 111)), []⟩ = X at *
  have hBV24 := hBn
  have hSV24 := hSn
  clear hBn hSn
  have m1 := hSV24.s1
  have k2 := hv.s2 ▸ hBV24.sc 2 (by unfold Sp; omega)
  have fz := hBV24.fz
  go_upto_region 15 with fail
  have hBm := hBV24.set 2 (by unfold Sp; omega) (.int .i64 (cnt : Int))
  have hKm := Kp.set V24 B b 2 (.int .i64 (cnt : Int))
  have hS2 := hSV24.kept hKm hsb
  have hK2 := hKV24.trans hKm
  clear m1 k2 fz hKm hBV24 hKV24 hSV24
  generalize V24.setCell ⟨b, 2, none⟩ (.int .i64 (cnt : Int)) = W2 at *
  generalize hfm : updv f 2 (.int .i64 (cnt : Int)) = f' at *
  have hvm : Sv f' cnt clen cent cend := ⟨by rw [← hfm]; exact hv.s0, by rw [← hfm]; exact hv.s1, by rw [← hfm, HC0.out]; rfl, ⟨e3, by rw [← hfm]; exact he3, he3b⟩, by rw [← hfm]; exact hv.s12, by rw [← hfm]; exact hv.s28, by rw [← hfm]; exact hv.s29, by rw [← hfm]; exact hv.s30⟩
  have he3' : f' 3 = .int .i64 (e3 : Int) := by rw [← hfm]; exact he3
  have hf2 : f' 2 = .int .i64 (cnt : Int) := by rw [← hfm]; rfl
  have z4 : (X 4).N = 0 := by rw [← hXn24, ← hXn20, ← hXn16, ← hXn8, ← hXn4]; rfl
  have z8 : (X 8).N = 0 := by rw [← hXn24, ← hXn20, ← hXn16, ← hXn8, ← hXn4]; rfl
  have z16 : (X 16).N = 0 := by rw [← hXn24, ← hXn20, ← hXn16, ← hXn8, ← hXn4]; rfl
  have z20 : (X 20).N = 0 := by rw [← hXn24, ← hXn20, ← hXn16, ← hXn8, ← hXn4]; rfl
  have z24 : (X 24).N = 0 := by rw [← hXn24, ← hXn20, ← hXn16, ← hXn8, ← hXn4]; rfl
  have zL : (X 20).L = [] := by rw [← hXn24, ← hXn20, ← hXn16, ← hXn8, ← hXn4]; rfl
  have ht : Stco (X 24).hd := by rw [← hXn24, ← hXn20, ← hXn16, ← hXn8, ← hXn4]; exact ⟨rfl, rfl, rfl, rfl⟩
  have n4 : (X 4).N ≤ 2000 := by omega
  have n8 : (X 8).N ≤ 2000 := by omega
  have n16 : (X 16).N ≤ 2000 := by omega
  have m2 := hS2.s2
  clear hXn4 hXn8 hXn16 hXn20 hXn24
  have hB2 : Bs W2 B b O5 X f' := hBm
  clear hBm hv he3 hfm
  have hv := hvm
  have he3 := he3'
  clear hvm he3'
  have HR : Hid (∀ w', W2.grownBy w' none → Calls Ybaf.prog 9 #[.pointer (some ⟨b, 4, none⟩), .int .u32 1] w' fun e w'' => e = .returned (.tuple #[]) ∧ ∃ x, Bs w'' B b O5 (upd X 4 x) f' ∧ x.N ≤ (X 4).N + 1 ∧ Kp W2 w'' B b) := fun w' hw => (run_bs (hB2.grown hw) 4 (by decide) (Or.inl rfl) 1 (by decide) (by omega)).mono fun e w'' ⟨he, x, h1, h2, _, h4⟩ => ⟨he, x, h1, h2, (Kp.grown B b hw).trans h4⟩
  go_wp2_with fail
  go_region_with (first
    | (go_at_call 9; refine (HR.out _ ?_).mono ?_; (first | exact grown_refl _ _ | exact grown_drew (grown_refl _ _)); rintro e W3 ⟨rfl, x4, hB3, hx4, hK3⟩))
  have hS3 := hS2.kept hK3 hsb
  have hK3' := hK2.trans hK3
  clear HR hB2 hK2 hS2 hK3 k0 m2
  generalize hX4 : upd X 4 x4 = X4 at *
  have n8' : (X4 8).N ≤ 2000 := by rw [← hX4]; exact n8
  have HR : Hid (∀ w', W3.grownBy w' none → Calls Ybaf.prog 9 #[.pointer (some ⟨b, 8, none⟩), .int .u32 0] w' fun e w'' => e = .returned (.tuple #[]) ∧ ∃ x, Bs w'' B b O5 (upd X4 8 x) f' ∧ x.N ≤ (X4 8).N + 1 ∧ Kp W3 w'' B b) := fun w' hw => (run_bs (hB3.grown hw) 8 (by decide) (Or.inr rfl) 0 (by decide) (by omega)).mono fun e w'' ⟨he, x, h1, h2, _, h4⟩ => ⟨he, x, h1, h2, (Kp.grown B b hw).trans h4⟩
  go_wp2_with fail
  refine (HR.out _ ?_).mono ?_
  · exact grown_refl _ _
  rintro e W4 ⟨rfl, x8, hB4, hx8, hK4⟩
  have hS4 := hS3.kept hK4 hsb
  have hK4' := hK3'.trans hK4
  clear HR hB3 hK3' hS3 hK4
  generalize hX8 : upd X4 8 x8 = X8 at *
  have n16' : (X8 16).N ≤ 2000 := by rw [← hX8, ← hX4]; exact n16
  have m5 := hS4.s5
  have k12 := hv.s12 ▸ hB4.sc 12 (by unfold Sp; omega)
  have hnq : ∀ w' : World, (binOp .neq 25 (.slice none 0 0) (.slice none 0 0)).run Ybaf.prog w' = .ok (.bool false) w' := fun w' => run_neq_slice_nil w' 25 5 none 0 0 Ybaf.underlying25
  have m3 := hS4.s3
  have HZ : Hid (∀ (w' : World) (s : Nat), W4.grownBy w' none → W4.heap.size ≤ s → w'.cell? ⟨s, 0, none⟩ = some (.int .u32 (size : Int)) → Calls Ybaf.prog 10 #[.pointer (some ⟨b, 16, none⟩), .slice (some ⟨s, 0, none⟩) 1 1] w' fun e w'' => e = .returned (.tuple #[]) ∧ ∃ x, Bs w'' B b O5 (upd X8 16 x) f' ∧ x.N = (X8 16).N + 1 ∧ x.hd = (X8 16).hd ∧ Kp W4 w'' B b) := fun w' s hw hs hc => size_bs hB4 (by decide) size (by omega) (by omega) hw hs hc
  go_wp2_with fail
  go_region_with (first
    | (go_at_call 10; refine (HZ.out _ _ ?_ ?_ ?_).mono ?_; (first | exact grown_alloc (grown_drew (grown_refl _ _)) _ | exact grown_drew (grown_alloc (grown_refl _ _) _)); (first | exact Nat.le_refl _ | simp); (first | exact (World.cell?_alloc_at _ _ _ _ rfl).trans rfl | simp); rintro e W5 ⟨rfl, x16, hB5, hx16, _, hK5⟩))
  have hS5 := hS4.kept hK5 hsb
  have hK5' := hK4'.trans hK5
  clear HZ hB4 hK4' hS4 hK5 m5 k12 m3 hnq
  generalize hX16 : upd X8 16 x16 = X16 at *
  have hmx : max (ent : Int) 1 = (e1 : Int) := by omega
  have m6 := hS5.s6
  have m4 := hS5.s4
  have k0 := hv.s0 ▸ hB5.sc 0 (by unfold Sp; omega)
  have k29 := hv.s29 ▸ hB5.sc 29 (by unfold Sp; omega)
  have k30 := hv.s30 ▸ hB5.sc 30 (by unfold Sp; omega)
  go_wp2_with fail
  go_quiet (fail)
  have hB6 := hB5.grown (grown_drewN (grown_refl W5 none) nq)
  have hK6 := hK5'.trans (Kp.grown B b (grown_drewN (grown_refl W5 none) nq))
  have hS6 := hS5.kept (Kp.grown B b (grown_drewN (grown_refl W5 none) nq)) hsb
  clear hB5 hK5' hS5 m6 m4 k0 k29 k30
  generalize W5.drewN nq = W6 at *
  have m4 := hS6.s4
  have hlx : (X16 20) = X 20 := by rw [← hX16, ← hX8, ← hX4]; rfl
  have hlx4 : (X16 24) = X 24 := by rw [← hX16, ← hX8, ← hX4]; rfl
  have n20 : (X 20).N ≤ 2000 := by omega
  have n24 : (X 24).N ≤ 2000 := by omega
  have HE := end_bs hB6 (by decide) (by decide) clen cent hv.s28 hv.s29 (by have := HL0.out; omega) (by have := HE0.out; omega) (by rw [hlx]; omega) (by rw [hlx4]; omega)
  go_wp2_with fail
  refine HE.mono ?_
  rintro e W7 ⟨rfl, x20, hB7, hx20, hxd20, hxL20, hK7⟩
  have hS7 := hS6.kept hK7 hsb
  have hK7' := hK6.trans hK7
  clear HE hB6 hK6 hS6 hK7 m4
  generalize hX20 : upd X16 20 x20 = X20 at *
  have hly4 : (X20 24) = X 24 := by rw [← hX20]; exact hlx4
  have m4 := hS7.s4
  have HC := chunk_bs hB7 (by decide) pos (by omega) (by rw [hly4]; omega) (by rw [hly4]; exact ht) (hG4.kept hK7' h4 h.bB)
  go_wp2_with fail
  refine HC.mono ?_
  rintro e W8 ⟨rfl, x24, hB8, hx24, hxd24, hK8⟩
  have hS8 := hS7.kept hK8 hsb
  have hK8' := hK7'.trans hK8
  clear HC hB7 hK7' hS7 hK8 m4
  generalize hX24 : upd X20 24 x24 = X24 at *
  have k28 := hv.s28 ▸ hB8.sc 28 (by unfold Sp; omega)
  have k29 := hv.s29 ▸ hB8.sc 29 (by unfold Sp; omega)
  have fz := hB8.fz
  go_upto_region 32 with fail
  have hB9 := (hB8.set 28 (by unfold Sp; omega) (.int .u32 0)).set 29 (by unfold Sp; omega) (.int .u32 (e1 : Int))
  have hKs := (Kp.set W8 B b 28 (.int .u32 0)).trans (Kp.set _ B b 29 (.int .u32 (e1 : Int)))
  have hS9 := hS8.kept hKs hsb
  have hK9 := hK8'.trans hKs
  clear hB8 hK8' hS8 hKs k28 k29 fz
  generalize (W8.setCell ⟨b, 28, none⟩ (.int .u32 0)).setCell ⟨b, 29, none⟩ (.int .u32 (e1 : Int)) = W9 at *
  generalize hf9 : updv (updv f' 28 (.int .u32 0)) 29 (.int .u32 (e1 : Int)) = f9 at *
  have g0 : f9 0 = .int .u32 (cnt : Int) := by rw [← hf9]; exact hv.s0
  have g1 : f9 1 = .int .u64 (cnt : Int) := by rw [← hf9]; exact hv.s1
  have g2 : f9 2 = .int .i64 (cnt : Int) := by rw [← hf9]; exact hf2
  have g3 : f9 3 = .int .i64 (e3 : Int) := by rw [← hf9]; exact he3
  have g12 : f9 12 = .slice none 0 0 := by rw [← hf9]; exact hv.s12
  have g28 : f9 28 = .int .u32 0 := by rw [← hf9]; rfl
  have g29 : f9 29 = .int .u32 (e1 : Int) := by rw [← hf9]; rfl
  have g30 : f9 30 = .int .i64 (cend : Int) := by rw [← hf9]; exact hv.s30
  have m1 := hS9.s1
  have m2 := hS9.s2
  have m3 := hS9.s3
  have m4 := hS9.s4
  have k0 := g0 ▸ hB9.sc 0 (by unfold Sp; omega)
  have k1 := g1 ▸ hB9.sc 1 (by unfold Sp; omega)
  have k2 := g2 ▸ hB9.sc 2 (by unfold Sp; omega)
  have k3 := g3 ▸ hB9.sc 3 (by unfold Sp; omega)
  have k28 := g28 ▸ hB9.sc 28 (by unfold Sp; omega)
  have k30 := g30 ▸ hB9.sc 30 (by unfold Sp; omega)
  have fz := hB9.fz
  have u0 : IntKind.u32.wrap ((cnt : Int) + 1) = (cnt : Int) + 1 := by rw [IntKind.wrap_u32]; omega
  have u1 : IntKind.u64.wrap ((cnt : Int) + 1) = (cnt : Int) + 1 := by rw [IntKind.wrap_u64]; omega
  have usz : IntKind.i64.wrap (size : Int) = (size : Int) := by rw [IntKind.wrap_i64]; omega
  have u30 : IntKind.i64.wrap ((pos : Int) + (size : Int)) = (pos : Int) + (size : Int) := by rw [IntKind.wrap_i64]; omega
  obtain ⟨e4, he4⟩ : ∃ e4 : Nat, max (e3 : Int) ((pos : Int) + (size : Int)) = (e4 : Int) := ⟨max e3 (pos + size), by omega⟩
  have he4b : e4 ≤ 10000000 := by omega
  go_wp2_with fail
  go_region
  go_wp2_with fail
  go_region
  go_wp2_with fail
  go_region
  go_wp2_with fail
  go_ret
  obtain ⟨ff, hBf, hvf, hKf⟩ := tail_bs2 (cnt := cnt + 1) (clen := 1) (cent := e1) (cend := pos + size) (e4 := e4) hB9 g12 g29 he4b 1 ((pos : Int) + (size : Int)) ((cnt : Int) + 1) (cnt : Int) (by omega) (by omega) (by omega) (by have := HC0.out; omega)
  refine ⟨rfl, X24, ff, hBf, hvf, ?_, ?_, ?_, ?_, hK9.trans hKf⟩
  · rw [← hX24, upd_other _ _ _ _ (by decide), ← hX20, upd_same, hxL20, hlx, hlx4, z24, zL]
    rfl
  · rw [← hX24, upd_same, hx24, hly4, z24]
  · rw [← hX24, upd_same, hxd24, hly4]
    exact ht
  · intro o ho
    rw [hly4] at hx24
    rw [hlx] at hx20
    rw [← hX8, ← hX4] at hx16
    rw [← hX4] at hx8
    have hx16' : x16.N = (X 16).N + 1 := hx16
    have hx8' : x8.N ≤ (X 8).N + 1 := hx8
    rw [← hX24, ← hX20, ← hX16, ← hX8, ← hX4]
    simp [O5] at ho
    rcases ho with rfl | rfl | rfl | rfl | rfl
    · show x24.N ≤ _; omega
    · show x20.N ≤ _; omega
    · show x16.N ≤ _; omega
    · show x8.N ≤ _; omega
    · show x4.N ≤ _; omega

end Go.Proofs.YbulksxoFmt.Bx
