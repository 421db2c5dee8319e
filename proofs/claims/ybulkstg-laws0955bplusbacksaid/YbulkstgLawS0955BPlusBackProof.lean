import Derived.Test.YbulkstgRows
import Derived.Test.YbulkstgInts
import Derived.WalkKit
import Derived.ProofKit
import Derived.OpenShut
import Derived.ShutString
namespace Go.Proofs.Ybulkstg.lawS0955BPlusBack
open Go.ChangeShapes Go.WideShapes Go.ChangeAt Go.RowKit
open Go.ChangeMaps (open_string shut_string)
set_option linter.unusedVariables false      -- a walk need not use every 'w<i>' (that an integer argument fits its kind)

theorem own : ownKnob Yba.prog.godebug = none := by kernel_rfl

/-! ### STEP 1: THE WALK: the Go text returns true. 'Grown w w'': the world has at most new blocks (Derived/RowKit3.lean). Part the cases AHEAD of 'go_enter' where a test parts the walk; take each callee by a contract of your own. -/
set_option maxHeartbeats 1000000 in
theorem walk (a0 : Bool) (a1 : Int) (a2 : Bool) (a3 : Int) (w1 : (Lit.int .u64 a1).wf = true) (w3 : (Lit.int .u64 a3).wf = true) (w : World) :
    Calls Yba.prog 6 #[.bool a0, .int .u64 a1, .bool a2, .int .u64 a3] w fun e w' => e = .returned (.bool true) ∧ Grown w w' := by
  have hb1 := bounds_u64 w1
  have hb3 := bounds_u64 w3
  have hx : Ints.Ok (a0 && a1 != 0) a1 := ⟨by omega, by omega, by simp; omega⟩
  have hf : Ints.Ok (a2 && a3 != 0) a3 := ⟨by omega, by omega, by simp; omega⟩
  generalize hxn : (a0 && a1 != 0) = xn at hx
  generalize hfn : (a2 && a3 != 0) = fn at hf
  have HX : Hid _ := hxn
  have HF : Hid _ := hfn
  clear hxn hfn
  go_enter Yba.func6, Yba.ntmps6
  go_wp2_with fail
  refine (Ints.mk_any a0 a1 _ (by omega)).mono ?_
  rintro e w' ⟨rfl, c1, rfl⟩
  rw [HX.out]
  go_wp2_with fail
  refine (Ints.mk_any a2 a3 _ (by omega)).mono ?_
  rintro e w' ⟨rfl, c2, rfl⟩
  rw [HF.out]
  go_wp2_with fail
  refine (Ints.off_any xn xn a1 a1 _ hx hx).mono ?_
  rintro e w' ⟨rfl, d1, d2, d3, d4, n1, rfl⟩
  rw [Int.sub_self, show Ints.offV 0 = 0 from rfl, show Ints.offB 0 = true from rfl]
  go_wp2_with fail
  refine (Ints.off_any xn fn a1 a3 _ hx hf).mono ?_
  rintro e w' ⟨rfl, d5, d6, d7, d8, n2, rfl⟩
  generalize hD : Ints.sv xn a1 - Ints.sv fn a3 = D
  have HD : Hid _ := hD
  clear hD
  by_cases hr : 0 ≤ D ∧ D < 18446744073709551616
  · have eV : Ints.offV D = D := by unfold Ints.offV; rw [if_neg (by omega)]; omega
    have eB : Ints.offB D = true := by unfold Ints.offB; simpa using hr
    rw [eV, eB]
    clear eV eB
    go_wp2_with fail
    refine (Ints.plus_back xn fn a1 a3 D _ hx hf hr.1 hr.2 (by have := HD.out; omega)).mono ?_
    rintro e w' ⟨rfl, d9, d10, n3, rfl⟩
    go_wp2
    go_ret
    exact ⟨rfl, by repeat (first | (with_reducible exact Grown.refl _) | (with_reducible refine Ints.grown_drewN ?_ _) | (with_reducible refine Grown.alloc ?_ _ _))⟩
  · have eB : Ints.offB D = false := by unfold Ints.offB; simpa using hr
    rw [eB]
    go_wp2
    go_ret
    exact ⟨rfl, by repeat (first | (with_reducible exact Grown.refl _) | (with_reducible refine Ints.grown_drewN ?_ _) | (with_reducible refine Grown.alloc ?_ _ _))⟩

/-! ### THE ROW's STEP: WRITTEN OUT: LEAVE IT -/
set_option maxRecDepth 100000 in
theorem lifted (os : Os) (started : os.Started) (H : Type) (enc : TypeId × Value → H) :
    ReturnsInHanded {} Yba.checked os 6 .any (Rows.lawS0955BPlusBackSpec.pre6 enc Yba.prog Yba.f6 Rows.lawS0955BPlusBackRow.domain false) (Rows.lawS0955BPlusBackSpec.post enc Yba.prog Yba.f6 false true false false) := by
  refine returnsInHanded_of_change (C := Yba.checked) own started (by kernel_rfl) Yba.func6
    (ChangeSpec.witness6 (enc := enc) (C := Yba.checked) false ⟨#[], #[.bool false, .int .u64 0, .bool false, .int .u64 0], []⟩ 8 (by kernel_rfl) (by kernel_rfl) (by kernel_rfl) (by kernel_rfl)) ?_
  intro W base args ds gs before hval0 hW hcnd _
  have hval : ∀ (j : Nat) t v, Yba.f6.params[j]? = some t → args[j]? = some v → Value.okWide Yba.prog W .any base t v := hval0
  have hW' := hW
  obtain ⟨p, q, hA0, hV, rfl, hfz, hnd⟩ := hW
  have hA : DataW.TrodAll enc Yba.prog W 0 (fun _ => true) true Yba.f6.params.toList args.toList ds p := hA0
  rw [Yba.params6] at hA hval
  obtain ⟨v0, vs0, d0, ds0, p0, q0, hargs, rfl, rfl, h0, r0⟩ := trodAll_cons hA
  obtain ⟨v1, vs1, d1, ds1, p1, q1, rfl, rfl, rfl, h1, r1⟩ := trodAll_cons r0
  obtain ⟨v2, vs2, d2, ds2, p2, q2, rfl, rfl, rfl, h2, r2⟩ := trodAll_cons r1
  obtain ⟨v3, vs3, d3, ds3, p3, q3, rfl, rfl, rfl, h3, r3⟩ := trodAll_cons r2
  obtain ⟨rfl, rfl, rfl⟩ := trodAll_nil r3
  obtain rfl : args = #[v0, v1, v2, v3] := by cases args; simp_all
  obtain ⟨rfl, rfl⟩ := trodVars_none hV
  obtain ⟨a0, rfl, rfl, rfl⟩ := open_bool Yba.underlying4 (hval 0 4 v0 rfl rfl) h0
  obtain ⟨a1, rfl, rfl, rfl, w1⟩ := open_int Yba.underlying27 (hval 1 27 v1 rfl rfl) h1
  obtain ⟨a2, rfl, rfl, rfl⟩ := open_bool Yba.underlying4 (hval 2 4 v2 rfl rfl) h2
  obtain ⟨a3, rfl, rfl, rfl, w3⟩ := open_int Yba.underlying27 (hval 3 27 v3 rfl rfl) h3
  clear hA0 hval0
  simp only [List.append_nil] at hW'
  refine (walk a0 a1 a2 a3 w1 w3 W).mono fun e W' ⟨he, hg⟩ => ?_
  subst he
  exact ⟨_, rfl, post_of_same (pa := []) (pv := []) hW' (fun _ _ _ => (trodAll_cons_mk (shut_bool Yba.underlying4 _) trodAll_mk0)) (fun sp _ => (trodAll_cons_mk (shut_bool Yba.underlying4 _) (trodAll_cons_mk (shut_int Yba.underlying27 w1) (trodAll_cons_mk (shut_bool Yba.underlying4 _) (trodAll_cons_mk (shut_int Yba.underlying27 w3) trodAll_mk0))))) (fun _ _ => rfl) rfl
    (hg.frame _) hg.2.1 (ok_one (by kernel_rfl) rfl (okWide_bool_mk Yba.underlying4 _))⟩

theorem over : Rows.lawS0955BPlusBackRow.holds Yba.pinned (OpenSpec.ofChange Rows.lawS0955BPlusBackSpec) :=
  OpenClaim.holds_of_wide 6 Yba.f6 rfl rfl rfl rfl rfl rfl rfl ⟨rfl, rfl, rfl, rfl, rfl⟩ rfl rfl rfl rfl rfl (by kernel_rfl) Yba.func6 (by kernel_rfl)
    (of_decide_eq_true (by kernel_rfl)) (by unfold Func.isWrapper; first | (rw [if_pos (by decide +kernel)]; kernel_rfl) | (rw [if_neg (by decide +kernel)]; exact ⟨rfl, rfl⟩))
    (fun os started H enc _ => lifted os started H enc)

/-- ████ THE STATEMENT ████ -/
theorem proved : Rows.LawS0955BPlusBackSaid :=
  over
#print axioms proved
end Go.Proofs.Ybulkstg.lawS0955BPlusBack
