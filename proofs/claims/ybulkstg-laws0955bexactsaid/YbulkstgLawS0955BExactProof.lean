import Derived.Test.YbulkstgRows
import Derived.Test.YbulkstgWide
import Derived.WalkKit
import Derived.ProofKit
import Derived.OpenShut
import Derived.ShutString
namespace Go.Proofs.Ybulkstg.lawS0955BExact
open Go.ChangeShapes Go.WideShapes Go.ChangeAt Go.RowKit
open Go.ChangeMaps (open_string shut_string)
set_option linter.unusedVariables false      -- a walk need not use every 'w<i>' (that an integer argument fits its kind)

theorem own : ownKnob Yba.prog.godebug = none := by kernel_rfl

theorem word_l (n : Bool) (a : Int) (h : Ints.Ok n a) : 0 ≤ Wide.wl n a ∧ Wide.wl n a < 18446744073709551616 := by
  obtain ⟨h0, h1, h2⟩ := h
  cases n <;> simp [Wide.wl] at * <;> omega
theorem word_h (n : Bool) : 0 ≤ Wide.wh n ∧ Wide.wh n < 18446744073709551616 := by
  cases n <;> simp [Wide.wh]

/-- THE PLAIN LAW: the difference in 128 bits. -/
theorem plain (xn fn : Bool) (xa fa : Int) (hx : Ints.Ok xn xa) (hf : Ints.Ok fn fa) :
    (Ints.sv xn xa - Ints.sv fn fa < 0 → 9223372036854775808 ≤ Wide.dv (Wide.wh xn) (Wide.wh fn) (Wide.bw (Wide.wl xn xa) (Wide.wl fn fa) 0) ∧ Wide.dv (Wide.wh xn) (Wide.wh fn) (Wide.bw (Wide.wl xn xa) (Wide.wl fn fa) 0) < 18446744073709551616) ∧
    (0 ≤ Ints.sv xn xa - Ints.sv fn fa → Ints.sv xn xa - Ints.sv fn fa < 18446744073709551616 → Wide.dv (Wide.wh xn) (Wide.wh fn) (Wide.bw (Wide.wl xn xa) (Wide.wl fn fa) 0) = 0 ∧ Wide.dv (Wide.wl xn xa) (Wide.wl fn fa) 0 = Ints.sv xn xa - Ints.sv fn fa) ∧
    (18446744073709551616 ≤ Ints.sv xn xa - Ints.sv fn fa → Wide.dv (Wide.wh xn) (Wide.wh fn) (Wide.bw (Wide.wl xn xa) (Wide.wl fn fa) 0) = 1) := by
  obtain ⟨hx0, hx1, hx2⟩ := hx
  obtain ⟨hy0, hy1, hy2⟩ := hf
  unfold Wide.bw Wide.dv
  cases xn <;> cases fn <;> simp only [Ints.sv, Wide.wh, Wide.wl] at * <;> simp at * <;> split <;> omega

/-! ### STEP 1: THE WALK: the Go text returns true. 'Grown w w'': the world has at most new blocks (Derived/RowKit3.lean). Part the cases AHEAD of 'go_enter' where a test parts the walk; take each callee by a contract of your own. -/
set_option maxHeartbeats 1000000 in
theorem walk (a0 : Bool) (a1 : Int) (a2 : Bool) (a3 : Int) (w1 : (Lit.int .u64 a1).wf = true) (w3 : (Lit.int .u64 a3).wf = true) (w : World) :
    Calls Yba.prog 5 #[.bool a0, .int .u64 a1, .bool a2, .int .u64 a3] w fun e w' => e = .returned (.bool true) ∧ Grown w w' := by
  have hb1 := bounds_u64 w1
  have hb3 := bounds_u64 w3
  have hx : Ints.Ok (a0 && a1 != 0) a1 := ⟨by omega, by omega, by simp; omega⟩
  have hf : Ints.Ok (a2 && a3 != 0) a3 := ⟨by omega, by omega, by simp; omega⟩
  generalize hxn : (a0 && a1 != 0) = xn at hx
  generalize hfn : (a2 && a3 != 0) = fn at hf
  have HX : Hid _ := hxn
  have HF : Hid _ := hfn
  clear hxn hfn
  obtain ⟨x0, x1⟩ := word_l xn a1 hx
  obtain ⟨f0, f1⟩ := word_l fn a3 hf
  obtain ⟨xh0, xh1⟩ := word_h xn
  obtain ⟨fh0, fh1⟩ := word_h fn
  obtain ⟨hD1, hD2, hD3⟩ := plain xn fn a1 a3 hx hf
  generalize hbb : Wide.bw (Wide.wl xn a1) (Wide.wl fn a3) 0 = bb at *
  generalize hlo : Wide.dv (Wide.wl xn a1) (Wide.wl fn a3) 0 = lo at *
  generalize hhi : Wide.dv (Wide.wh xn) (Wide.wh fn) bb = hi at *
  have hbb0 : 0 ≤ bb := by rw [← hbb]; unfold Wide.bw; split <;> decide
  have hbb1 : bb ≤ 1 := by rw [← hbb]; unfold Wide.bw; split <;> decide
  have s1 := Wide.sub64 (Wide.wl xn a1) (Wide.wl fn a3) 0 x0 f0 f1 (by omega) (by omega)
  rw [hbb, hlo] at s1
  have s2 := Wide.sub64 (Wide.wh xn) (Wide.wh fn) bb xh0 fh0 fh1 hbb0 hbb1
  rw [hhi] at s2
  have hwx := fun w => Wide.wide_any xn a1 w hx
  have hwf := fun w => Wide.wide_any fn a3 w hf
  have WX : Hid _ := hwx
  have WF : Hid _ := hwf
  clear hwx hwf
  have S1 : Hid _ := s1
  have S2 : Hid _ := s2
  clear s1 s2 hbb hlo hhi
  generalize Wide.wl xn a1 = xl at *
  generalize Wide.wl fn a3 = fl at *
  generalize Wide.wh xn = xh at *
  generalize Wide.wh fn = fh at *
  have P1 : Hid _ := hD1
  have P2 : Hid _ := hD2
  have P3 : Hid _ := hD3
  clear hD1 hD2 hD3
  go_enter Yba.func5, Yba.ntmps5
  go_wp2_with fail
  refine (Ints.mk_any a0 a1 _ (by omega)).mono ?_
  rintro e w' ⟨rfl, c1, rfl⟩
  rw [HX.out]
  go_wp2_with fail
  refine (Ints.mk_any a2 a3 _ (by omega)).mono ?_
  rintro e w' ⟨rfl, c2, rfl⟩
  rw [HF.out]
  go_wp2_with fail
  refine (WX.out _).mono ?_
  rintro e w' ⟨rfl, c3, n1, rfl⟩
  go_wp2_with fail
  refine (WF.out _).mono ?_
  rintro e w' ⟨rfl, c4, n2, rfl⟩
  go_wp2_with (first | simp only [S1.out] | simp only [S2.out] | fail)
  refine (Ints.off_any xn fn a1 a3 _ hx hf).mono ?_
  rintro e w' ⟨rfl, d1, d2, d3, d4, n3, rfl⟩
  generalize Ints.sv xn a1 - Ints.sv fn a3 = D at *
  have p1 := P1.out
  have p2 := P2.out
  have p3 := P3.out
  clear P1 P2 P3 S1 S2
  by_cases hn : D < 0
  · have eB : Ints.offB D = false := by unfold Ints.offB; simp; omega
    have eV : Ints.offV D = 0 := by unfold Ints.offV; rw [if_pos hn]
    rw [eB, eV]
    obtain ⟨p1a, p1b⟩ := p1 hn
    clear p1 p2 p3 eB eV
    go_wp2
    go_ret
    exact ⟨rfl, by repeat (first | (with_reducible exact Grown.refl _) | (with_reducible refine Ints.grown_drewN ?_ _) | (with_reducible refine Grown.alloc ?_ _ _))⟩
  · by_cases hm : D < 18446744073709551616
    · have eB : Ints.offB D = true := by unfold Ints.offB; simp; omega
      have eV : Ints.offV D = D := by unfold Ints.offV; rw [if_neg hn]; omega
      rw [eB, eV]
      obtain ⟨rfl, rfl⟩ := p2 (by omega) hm
      clear p1 p2 p3 eB eV
      go_wp2
      go_ret
      exact ⟨rfl, by repeat (first | (with_reducible exact Grown.refl _) | (with_reducible refine Ints.grown_drewN ?_ _) | (with_reducible refine Grown.alloc ?_ _ _))⟩
    · have eB : Ints.offB D = false := by unfold Ints.offB; simp; omega
      rw [eB]
      obtain rfl := p3 (by omega)
      clear p1 p2 p3 eB
      go_wp2
      go_ret
      exact ⟨rfl, by repeat (first | (with_reducible exact Grown.refl _) | (with_reducible refine Ints.grown_drewN ?_ _) | (with_reducible refine Grown.alloc ?_ _ _))⟩

/-! ### THE ROW's STEP: WRITTEN OUT: LEAVE IT -/
set_option maxRecDepth 100000 in
theorem lifted (os : Os) (started : os.Started) (H : Type) (enc : TypeId × Value → H) :
    ReturnsInHanded {} Yba.checked os 5 .any (Rows.lawS0955BExactSpec.pre6 enc Yba.prog Yba.f5 Rows.lawS0955BExactRow.domain false) (Rows.lawS0955BExactSpec.post enc Yba.prog Yba.f5 false true false false) := by
  refine returnsInHanded_of_change (C := Yba.checked) own started (by kernel_rfl) Yba.func5
    (ChangeSpec.witness6 (enc := enc) (C := Yba.checked) false ⟨#[], #[.bool false, .int .u64 0, .bool false, .int .u64 0], []⟩ 8 (by kernel_rfl) (by kernel_rfl) (by kernel_rfl) (by kernel_rfl)) ?_
  intro W base args ds gs before hval0 hW hcnd _
  have hval : ∀ (j : Nat) t v, Yba.f5.params[j]? = some t → args[j]? = some v → Value.okWide Yba.prog W .any base t v := hval0
  have hW' := hW
  obtain ⟨p, q, hA0, hV, rfl, hfz, hnd⟩ := hW
  have hA : DataW.TrodAll enc Yba.prog W 0 (fun _ => true) true Yba.f5.params.toList args.toList ds p := hA0
  rw [Yba.params5] at hA hval
  obtain ⟨v0, vs0, d0, ds0, p0, q0, hargs, rfl, rfl, h0, r0⟩ := trodAll_cons hA
  obtain ⟨v1, vs1, d1, ds1, p1, q1, rfl, rfl, rfl, h1, r1⟩ := trodAll_cons r0
  obtain ⟨v2, vs2, d2, ds2, p2, q2, rfl, rfl, rfl, h2, r2⟩ := trodAll_cons r1
  obtain ⟨v3, vs3, d3, ds3, p3, q3, rfl, rfl, rfl, h3, r3⟩ := trodAll_cons r2
  obtain ⟨rfl, rfl, rfl⟩ := trodAll_nil r3
  obtain rfl : args = #[v0, v1, v2, v3] := by cases args; simp_all
  obtain ⟨rfl, rfl⟩ := trodVars_none hV
  obtain ⟨a0, rfl, rfl, rfl⟩ := open_bool Yba.underlying4 (hval 0 4 v0 rfl rfl) h0
  obtain ⟨a1, rfl, rfl, rfl, w1⟩ := open_int Yba.underlying27 (hval 1 27 v1 rfl rfl) h1
  obtain ⟨a2, rfl, rfl, rfl⟩ := open_bool Yba.underlying4 (hval 2 4 v2 rfl rfl) h2
  obtain ⟨a3, rfl, rfl, rfl, w3⟩ := open_int Yba.underlying27 (hval 3 27 v3 rfl rfl) h3
  clear hA0 hval0
  simp only [List.append_nil] at hW'
  refine (walk a0 a1 a2 a3 w1 w3 W).mono fun e W' ⟨he, hg⟩ => ?_
  subst he
  exact ⟨_, rfl, post_of_same (pa := []) (pv := []) hW' (fun _ _ _ => (trodAll_cons_mk (shut_bool Yba.underlying4 _) trodAll_mk0)) (fun sp _ => (trodAll_cons_mk (shut_bool Yba.underlying4 _) (trodAll_cons_mk (shut_int Yba.underlying27 w1) (trodAll_cons_mk (shut_bool Yba.underlying4 _) (trodAll_cons_mk (shut_int Yba.underlying27 w3) trodAll_mk0))))) (fun _ _ => rfl) rfl
    (hg.frame _) hg.2.1 (ok_one (by kernel_rfl) rfl (okWide_bool_mk Yba.underlying4 _))⟩

theorem over : Rows.lawS0955BExactRow.holds Yba.pinned (OpenSpec.ofChange Rows.lawS0955BExactSpec) :=
  OpenClaim.holds_of_wide 5 Yba.f5 rfl rfl rfl rfl rfl rfl rfl ⟨rfl, rfl, rfl, rfl, rfl⟩ rfl rfl rfl rfl rfl (by kernel_rfl) Yba.func5 (by kernel_rfl)
    (of_decide_eq_true (by kernel_rfl)) (by unfold Func.isWrapper; first | (rw [if_pos (by decide +kernel)]; kernel_rfl) | (rw [if_neg (by decide +kernel)]; exact ⟨rfl, rfl⟩))
    (fun os started H enc _ => lifted os started H enc)

/-- ████ THE STATEMENT ████ -/
theorem proved : Rows.LawS0955BExactSaid :=
  over
#print axioms proved
end Go.Proofs.Ybulkstg.lawS0955BExact
