import Derived.Test.YbulkstgFmtKind
namespace Go.Proofs.YbulkstgFmt.Tk
open Go Go.RowKit
open Go.Extern.Stop Go.Stop Go.Extern

set_option maxHeartbeats 1000000 in
theorem value_two (w : World) (B g n c i : Nat) (T : Nat → Tok) (h : Ps w B g n c T i) (h1 : tis (tokAt n T i) ⟨#[123]⟩ = false) (h2 : tis (tokAt n T i) ⟨#[45]⟩ = true) (h3 : (tokAt n T (i + 1)).kind = 3) :
    Calls Ybaf.prog 18 #[.pointer (some ⟨B, 0, none⟩)] w fun e w' => e = .returned (.tuple #[.slice (some ⟨g, i * 5, none⟩) 2 (c - i), .nilIface]) ∧ w.grownBy w' (some B) ∧ Ps w' B g n c T (i + 1 + 1) := by
  have hi := lt_of_kind (T := T) (n := n) (i := i + 1) (by rw [h3]; decide)
  have hkt := fun w what h => kind_t w B g n c (i + 1) T what h h3
  have HK : Hid _ := hkt
  have hnx := fun w h => next_any w B g n c i T h (by intro h0; simp [tis, h0] at h2)
  have HX : Hid _ := hnx
  clear hkt hnx h3
  have H1 : Hid _ := h1
  have H2 : Hid _ := h2
  have hbd := h.bd
  have p1 := h.p1
  have hBw := h.hB
  have hnc := h.nc
  clear h1 h2
  generalize ht : tokAt n T i = t at *
  have HT : Hid _ := ht
  clear ht
  go_enter Ybaf.func18, Ybaf.ntmps18
  go_wp2_with fail
  refine (peek_any _ B g n c i T h).mono ?_
  rw [HT.out]
  rintro e w1 ⟨rfl, hg⟩
  have hP := h.later hg
  go_wp2_with fail
  refine (is_any t _ false _ H1.out).mono ?_
  rintro e w2 ⟨rfl, o1, rfl⟩
  go_wp2_with fail
  refine (is_any t _ true _ H2.out).mono ?_
  rintro e w2 ⟨rfl, o2, rfl⟩
  have hP2 := ((hP.later (World.grownBy_alloc _ (.cells #[.int .i64 t.kind, .string t.text, .string t.file, .int .i64 t.line, .int .i64 t.col] 28) _)).later (World.grownBy_alloc _ o1 _)).later (World.grownBy_alloc _ o2 _)
  have hg2 := grown_alloc (grown_alloc (grown_alloc hg (.cells #[.int .i64 t.kind, .string t.text, .string t.file, .int .i64 t.line, .int .i64 t.col] 28)) o1) o2
  have hs := fun w => slice_toks w g n c i (i + 1 + 1) (by omega) (by omega) hnc (i : Int) ((i : Int) + 2) rfl (by omega)
  rw [show i + 1 + 1 - i = 2 by omega] at hs
  go_wp2_with fail
  refine (HX.out _ hP2).mono ?_
  rintro e w4 ⟨rfl, hg4, hP4⟩
  go_wp2_with fail
  refine (HK.out _ _ hP4).mono ?_
  generalize tokAt n T (i + 1) = t2
  rintro e w5 ⟨rfl, hg5, hP5⟩
  have hP6 := hP5.later (World.grownBy_alloc _ (.cells #[.int .i64 t2.kind, .string t2.text, .string t2.file, .int .i64 t2.line, .int .i64 t2.col] 28) _)
  have hgz := grown_alloc (grown_trans (grown_trans (grown_some hg2 (some B)) hg4) hg5) (.cells #[.int .i64 t2.kind, .string t2.text, .string t2.file, .int .i64 t2.line, .int .i64 t2.col] 28)
  have p0 := hP5.p0
  have p1' := hP5.p1
  have hB5 := hP5.hB
  rw [show ((i + 1 + 1 : Nat) : Int) = (i : Int) + 2 by omega] at p1'
  clear HX HK
  go_wp2
  go_quiet (fail)
  go_wp2
  go_ret2
  exact ⟨rfl, grown_drewN hgz _, ⟨hP6.hB, hP6.hg, hP6.ne, hP6.le, hP6.nc, hP6.bd, hP6.p0, hP6.p1, hP6.p2, hP6.fz, hP6.t0, hP6.t1, hP6.t2, hP6.t3, hP6.t4⟩⟩

set_option maxHeartbeats 1000000 in
theorem value_err2 (F : Interp) (w : World) (B g n c i : Nat) (T : Nat → Tok) (hF : F.answers w.tape) (h : Ps w B g n c T i) (h1 : tis (tokAt n T i) ⟨#[123]⟩ = false) (h2 : tis (tokAt n T i) ⟨#[45]⟩ = true) (h3 : (tokAt n T (i + 1)).kind ≠ 3) :
    Calls Ybaf.prog 18 #[.pointer (some ⟨B, 0, none⟩)] w fun e w' => ∃ E, e = .returned (.tuple #[.slice none 0 0, .iface 50 (.pointer (some ⟨E, 0, none⟩))]) ∧ w.grownBy w' (some B) := by
  have hkt := fun w what hF h => kind_f F w B g n c (i + 1) T what hF h h3
  have HK : Hid _ := hkt
  have hnx := fun w h => next_any w B g n c i T h (by intro h0; simp [tis, h0] at h2)
  have HX : Hid _ := hnx
  clear hkt hnx h3
  have H1 : Hid _ := h1
  have H2 : Hid _ := h2
  have hbd := h.bd
  have p1 := h.p1
  have hBw := h.hB
  have hnc := h.nc
  clear h1 h2
  generalize ht : tokAt n T i = t at *
  have HT : Hid _ := ht
  clear ht
  go_enter Ybaf.func18, Ybaf.ntmps18
  go_wp2_with fail
  refine (peek_any _ B g n c i T h).mono ?_
  rw [HT.out]
  rintro e w1 ⟨rfl, hg⟩
  have hP := h.later hg
  go_wp2_with fail
  refine (is_any t _ false _ H1.out).mono ?_
  rintro e w2 ⟨rfl, o1, rfl⟩
  go_wp2_with fail
  refine (is_any t _ true _ H2.out).mono ?_
  rintro e w2 ⟨rfl, o2, rfl⟩
  have hP2 := ((hP.later (World.grownBy_alloc _ (.cells #[.int .i64 t.kind, .string t.text, .string t.file, .int .i64 t.line, .int .i64 t.col] 28) _)).later (World.grownBy_alloc _ o1 _)).later (World.grownBy_alloc _ o2 _)
  have hg2 := grown_alloc (grown_alloc (grown_alloc hg (.cells #[.int .i64 t.kind, .string t.text, .string t.file, .int .i64 t.line, .int .i64 t.col] 28)) o1) o2
  go_wp2_with fail
  refine (HX.out _ hP2).mono ?_
  rintro e w4 ⟨rfl, hg4, hP4⟩
  have hgy := grown_trans (grown_some hg2 (some B)) hg4
  have hF4 : F.answers w4.tape := by rw [hgy.tape]; exact hF
  go_wp2_with fail
  refine (HK.out _ _ hF4 hP4).mono ?_
  generalize tokAt n T (i + 1) = t2
  rintro e w5 ⟨E, rfl, hg5⟩
  have hgz := grown_alloc (grown_trans hgy (grown_some hg5 (some B))) (.cells #[.int .i64 t2.kind, .string t2.text, .string t2.file, .int .i64 t2.line, .int .i64 t2.col] 28)
  clear HX HK
  go_wp2
  go_ret2
  exact ⟨E, rfl, hgz⟩

set_option maxHeartbeats 1000000 in
theorem value_err1 (F : Interp) (w : World) (B g n c i : Nat) (T : Nat → Tok) (hF : F.answers w.tape) (h : Ps w B g n c T i) (hk : (tokAt n T i).kind ≠ 3) (hk' : (tokAt n T i).kind ≠ 1) (h1 : tis (tokAt n T i) ⟨#[123]⟩ = false) (h2 : tis (tokAt n T i) ⟨#[45]⟩ = false) :
    Calls Ybaf.prog 18 #[.pointer (some ⟨B, 0, none⟩)] w fun e w' => ∃ E, e = .returned (.tuple #[.slice none 0 0, .iface 50 (.pointer (some ⟨E, 0, none⟩))]) ∧ w.grownBy w' (some B) := by
  have k3 : ((tokAt n T i).kind == 3) = false := by simpa using hk
  have k1 : ((tokAt n T i).kind == 1) = false := by simpa using hk'
  clear hk hk'
  have H1 : Hid _ := h1
  have H2 : Hid _ := h2
  have hbd := h.bd
  have p1 := h.p1
  have hBw := h.hB
  have hnc := h.nc
  clear h1 h2
  generalize ht : tokAt n T i = t at *
  have HT : Hid _ := ht
  clear ht
  go_enter Ybaf.func18, Ybaf.ntmps18
  go_wp2_with fail
  refine (peek_any _ B g n c i T h).mono ?_
  rw [HT.out]
  rintro e w1 ⟨rfl, hg⟩
  have hP := h.later hg
  go_wp2_with fail
  refine (is_any t _ false _ H1.out).mono ?_
  rintro e w2 ⟨rfl, o1, rfl⟩
  go_wp2_with fail
  refine (is_any t _ false _ H2.out).mono ?_
  rintro e w2 ⟨rfl, o2, rfl⟩
  go_wp2_with fail
  have hs7 := (C5.new w1 (.int .i64 t.kind) (.string t.text) (.string t.file) (.int .i64 t.line) (.int .i64 t.col) 28).later (grown_alloc (World.grownBy_alloc _ o1 none) o2) (by simp)
  have hg2 := grown_alloc (grown_alloc (grown_alloc hg (.cells #[.int .i64 t.kind, .string t.text, .string t.file, .int .i64 t.line, .int .i64 t.col] 28)) o1) o2
  generalize ((w1.alloc (.cells #[.int .i64 t.kind, .string t.text, .string t.file, .int .i64 t.line, .int .i64 t.col] 28)).alloc o1).alloc o2 = w2 at *
  generalize w1.heap.size = b1 at *
  have hF2 : F.answers w2.tape := by rw [hg2.tape]; exact hF
  obtain ⟨lu, u0, u1, u2, u3, u4, uf⟩ := hs7
  have hds : ∀ W', w2.grownBy W' none → Calls Ybaf.prog 20 #[.agg #[.int .i64 t.kind, .string t.text, .string t.file, .int .i64 t.line, .int .i64 t.col]] W' fun e w' => ∃ s, e = .returned (.string s) ∧ w2.grownBy w' none ∧ W'.heap.size ≤ w'.heap.size := fun W' hW => (describe_any F t W' (by rw [hW.tape]; exact hF2)).mono fun e w' ⟨s, he, hg⟩ => ⟨s, he, grown_trans hW hg, hg.size⟩
  have her : ∀ W' b s1, w2.grownBy W' none → b < W'.heap.size → W'.cell? ⟨b, 0, none⟩ = some (.iface 9 (.string s1)) → Calls Ybaf.prog 17 #[.agg #[.string t.file, .int .i64 t.line, .int .i64 t.col], .string ⟨#[101, 120, 112, 101, 99, 116, 101, 100, 32, 97, 32, 118, 97, 108, 117, 101, 44, 32, 102, 111, 117, 110, 100, 32, 37, 115]⟩, .slice (some ⟨b, 0, none⟩) 1 1] W' fun e w' => ∃ E, e = .returned (.pointer (some ⟨E, 0, none⟩)) ∧ w2.grownBy w' none := fun W' b s1 hW hb h1 => (errorf_val F W' _ _ _ b s1 (by rw [hW.tape]; exact hF2) hb h1).mono fun e w' ⟨E, he, hg⟩ => ⟨E, he, grown_trans hW hg⟩
  have HDS : Hid _ := hds
  have HER : Hid _ := her
  have HG : Hid _ := hg2
  clear hds her hg2 hP h hg hF p1
  go_region_held3 (fun w' => w'.cell? ⟨b1, 0, none⟩ = some (.int .i64 t.kind) ∧ w'.cell? ⟨b1, 1, none⟩ = some (.string t.text) ∧ w'.cell? ⟨b1, 2, none⟩ = some (.string t.file) ∧ w'.cell? ⟨b1, 3, none⟩ = some (.int .i64 t.line) ∧ w'.cell? ⟨b1, 4, none⟩ = some (.int .i64 t.col)) (first | (simp [go_sem, *]; done) | skip) (first
    | (go_at_call 20; refine (HDS.out _ (by first | exact grown_refl _ _ | exact grown_drew (grown_refl _ _))).mono ?_; rintro e w5 ⟨s, rfl, hg5, hs5⟩; have x0 := hg5.cell u0 (by simp); have x1 := hg5.cell u1 (by simp); have x2 := hg5.cell u2 (by simp); have x3 := hg5.cell u3 (by simp); have x4 := hg5.cell u4 (by simp); have xl := Nat.lt_of_lt_of_le lu hg5.size)
    | (go_at_call 17; refine (HER.out _ _ s (grown_alloc hg5 _) (by simp) (World.cell?_alloc_at _ _ _ _ rfl)).mono ?_; rintro e w6 ⟨E, rfl, hg6⟩; have y0 := hg6.cell u0 (by simp); have y1 := hg6.cell u1 (by simp); have y2 := hg6.cell u2 (by simp); have y3 := hg6.cell u3 (by simp); have y4 := hg6.cell u4 (by simp)))
  go_wp2
  go_ret2
  exact ⟨E, rfl, grown_trans (grown_some HG.out _) (grown_some hg6 _)⟩

end Go.Proofs.YbulkstgFmt.Tk
