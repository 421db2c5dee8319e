import Derived.Test.YbulkstgRun
import Derived.Deep.Grids
import Derived.WalkKit
import Derived.ProofKit
import Derived.OpenShut
import Derived.ShutString
import Derived.ChangeOld
import Derived.Below
namespace Go.Proofs.Ybulkstg.lawS0955AEncodes
open Go.ChangeShapes Go.WideShapes Go.ChangeAt Go.RowKit
open Go.ChangeMaps (open_string shut_string)
set_option linter.unusedVariables false

theorem own : ownKnob Yba.prog.godebug = none := by kernel_rfl
theorem laidOut : laidOutB Yba.prog = true := by kernel_rfl

theorem cells4 (w : World) : (Go.sizeOf (Yba.prog.elem 22)).run Yba.prog w = .ok 1 w := by
  have h : Yba.prog.elem 22 = 4 := by kernel_rfl
  have h4 : Yba.prog.cellsOf 4 = 1 := by kernel_rfl
  have hi : (Yba.prog.info? 4).map (fun i => (i.zero, i.size, i.bytes)) = some (some (.bool false), 1, 1) := by kernel_rfl
  obtain ⟨i0, hi, _⟩ := info_parts hi
  rw [h, run_sizeOf w hi, h4]
theorem under22 : Yba.prog.underlying 22 = some (.slice (Yba.prog.elem 22)) := by kernel_rfl
theorem slice64 (w : World) (ao : Option Addr) (len c : Nat) (h : 64 ≤ c) :
    (Instr.slice 22 (.slice ao len c) none (some (.int .i64 64)) none).run Yba.prog w = .ok (.slice ao 64 c) w := by
  rw [run_slice_h w 22 ao len c under22 .i64 64 (by omega) (by omega), cells4]
  simp only [Result.andThen, sliced]
  congr 2
  cases ao <;> simp [Addr.add]

/-! ### THE WALK -/
set_option maxHeartbeats 1000000 in
theorem walk (a0 : Option Addr) (len0 cap0 : Nat) (bs : List Bool) (a1 : Option Addr) (len1 cap1 : Nat) (xs : List Int) (w : World) (hb : bs.length = len0) (w0 : Buf.Sb w a0 cap0 bs) (hx : xs.length = len1) (w1 : Buf.Sl w a1 cap1 xs) :
    Calls Yba.prog 3 #[.slice a0 len0 cap0, .slice a1 len1 cap1] w fun e w' => e = .returned (.bool true) ∧ Below w.heap.size w w' := by
  have hle0 := w0.le
  rw [hb] at hle0
  by_cases hbig : 131072 < len1
  · go_enter Yba.func3, Yba.ntmps3
    go_wp2
    go_ret
    exact ⟨rfl, Below.refl _ _⟩
  by_cases h64 : 64 < len0
  · have hr := Buf.run_any w a0 64 cap0 (bs.take 64) a1 len1 cap1 xs (by rw [List.length_take]; omega) (by omega) (w0.take 64) hx (by omega) w1
    have HR : Hid _ := hr
    have hs := fun w => slice64 w a0 len0 cap0 (by omega)
    clear hr hb hx
    go_enter Yba.func3, Yba.ntmps3
    go_wp2_with fail
    refine Calls.mono HR.out ?_
    rintro e w' ⟨rfl, hbel⟩
    go_wp2
    go_ret
    exact ⟨rfl, hbel⟩
  · have hr := Buf.run_any w a0 len0 cap0 bs a1 len1 cap1 xs hb (by omega) w0 hx (by omega) w1
    have HR : Hid _ := hr
    clear hr hb hx
    go_enter Yba.func3, Yba.ntmps3
    go_wp2_with fail
    refine Calls.mono HR.out ?_
    rintro e w' ⟨rfl, hbel⟩
    go_wp2
    go_ret
    exact ⟨rfl, hbel⟩

/-! ### THE ROW's STEP: WRITTEN OUT: LEAVE IT -/
set_option maxRecDepth 100000 in
theorem lifted (os : Os) (started : os.Started) (H : Type) (enc : TypeId × Value → H) :
    ReturnsInHanded {} Yba.checked os 3 .any (Rows.lawS0955AEncodesSpec.pre6 enc Yba.prog Yba.f3 Rows.lawS0955AEncodesRow.domain false) (Rows.lawS0955AEncodesSpec.post enc Yba.prog Yba.f3 false true false false) := by
  refine returnsInHanded_of_change (C := Yba.checked) own started (by kernel_rfl) Yba.func3
    (ChangeSpec.witness6 (enc := enc) (C := Yba.checked) false ⟨#[], #[.slice none 0 0, .slice none 0 0], []⟩ 8 (by kernel_rfl) (by kernel_rfl) (by kernel_rfl) (by kernel_rfl)) ?_
  intro W base args ds gs before hval0 hW hcnd _
  have hval : ∀ (j : Nat) t v, Yba.f3.params[j]? = some t → args[j]? = some v → Value.okWide Yba.prog W .any base t v := hval0
  have hW' := hW
  obtain ⟨p, q, hA0, hV, rfl, hfz, hnd⟩ := hW
  have hA : DataW.TrodAll enc Yba.prog W 0 (fun _ => true) true Yba.f3.params.toList args.toList ds p := hA0
  rw [Yba.params3] at hA hval
  obtain ⟨v0, vs0, d0, ds0, p0, q0, hargs, rfl, rfl, h0, r0⟩ := trodAll_cons hA
  obtain ⟨v1, vs1, d1, ds1, p1, q1, rfl, rfl, rfl, h1, r1⟩ := trodAll_cons r0
  obtain ⟨rfl, rfl, rfl⟩ := trodAll_nil r1
  obtain rfl : args = #[v0, v1] := by cases args; simp_all
  obtain ⟨rfl, rfl⟩ := trodVars_none hV
  obtain ⟨a0, len0, cap0, rfl⟩ := okWide_slice Yba.underlying22 (hval 0 22 v0 rfl rfl)
  have k0 := h0
  have lt0 : ∀ x ∈ p0, x.block < W.heap.size := by obtain ⟨m, hm⟩ := k0; exact DataW.trod_lt m _ _ _ hm
  obtain ⟨bs, hbs, w0⟩ : ∃ bs : List Bool, bs.length = len0 ∧ Buf.Sb W a0 cap0 bs := by
    obtain ⟨fuel, hf⟩ := h0
    rcases Go.Deep.open_bools Yba.underlying22 Yba.underlying4 (by kernel_rfl) hf with ⟨hcs, _⟩ | ⟨x, l, c, f, hcs, _, hl, hm, _, hcell⟩
    · simp [Value.cells] at hcs
      obtain ⟨rfl, rfl, rfl⟩ := hcs
      exact ⟨[], rfl, by simp, by simp [maxLen], (fun a ha => by cases ha), fun _ => rfl⟩
    · simp [Value.cells] at hcs
      obtain ⟨rfl, rfl, rfl⟩ := hcs
      refine ⟨(List.range len0).map f, by simp, by simpa using hl, hm, fun a ha j hj => ?_, fun ha => by cases ha⟩
      simp at ha hj
      subst ha
      rw [hcell j (by omega)]
      simp [hj]
  obtain ⟨a1, len1, cap1, rfl⟩ := okWide_slice Yba.underlying23 (hval 1 23 v1 rfl rfl)
  have k1 := h1
  have lt1 : ∀ x ∈ p1, x.block < W.heap.size := by obtain ⟨m, hm⟩ := k1; exact DataW.trod_lt m _ _ _ hm
  obtain ⟨xs, hxs, w1⟩ : ∃ xs : List Int, xs.length = len1 ∧ Buf.Sl W a1 cap1 xs := by
    obtain ⟨fuel, hf⟩ := h1
    rcases open_ints Yba.underlying23 Yba.underlying5 (by kernel_rfl) hf with ⟨hcs, _⟩ | ⟨x, l, c, zs, hcs, _, hl, hm, hz, _, hcell, hwz⟩
    · simp [Value.cells] at hcs
      obtain ⟨rfl, rfl, rfl⟩ := hcs
      exact ⟨[], rfl, by simp, by simp [maxLen], fun _ => rfl, fun a ha => by cases ha⟩
    · simp [Value.cells] at hcs
      obtain ⟨rfl, rfl, rfl⟩ := hcs
      have hz' : zs.length = cap1 := by simpa using hz
      refine ⟨zs.take len1, by rw [List.length_take]; omega, by rw [List.length_take]; omega, hm, (fun ha => by cases ha), fun a ha j u hj => ?_⟩
      simp at ha
      subst ha
      rw [List.map_take, List.getElem?_take] at hj
      split at hj
      · rename_i hjl
        rw [hcell j (by omega)]
        rw [List.getElem?_map, List.getElem?_eq_getElem (by omega)] at hj
        rw [← hj, List.getD, List.getElem?_eq_getElem (by omega)]
        rfl
      · cases hj
  clear hA0 hval0
  refine (walk a0 len0 cap0 bs a1 len1 cap1 xs W hbs w0 hxs w1).mono fun e W' ⟨he, bel⟩ => ?_
  subst he
  exact ⟨_, rfl, _, _, _, [], _, [], hW', trodAll_mk1 (shut_bool Yba.underlying4 _), (trodAll_cons_mk (Below.trod laidOut (by kernel_rfl) (of_decide_eq_true (by kernel_rfl)) k0 bel lt0) (trodAll_cons_mk (Below.trod laidOut (by kernel_rfl) (of_decide_eq_true (by kernel_rfl)) k1 bel lt1) trodAll_mk0)), rfl, bel.frame _, fun h => by cases h⟩

theorem over : Rows.lawS0955AEncodesRow.holds Yba.pinned (OpenSpec.ofChange Rows.lawS0955AEncodesSpec) :=
  OpenClaim.holds_of_wide 3 Yba.f3 rfl rfl rfl rfl rfl rfl rfl ⟨rfl, rfl, rfl, rfl, rfl⟩ rfl rfl rfl rfl rfl (by kernel_rfl) Yba.func3 (by kernel_rfl)
    (of_decide_eq_true (by kernel_rfl)) (by unfold Func.isWrapper; first | (rw [if_pos (by decide +kernel)]; kernel_rfl) | (rw [if_neg (by decide +kernel)]; exact ⟨rfl, rfl⟩))
    (fun os started H enc _ => lifted os started H enc)

/-- ████ THE STATEMENT ████ -/
theorem proved : Rows.LawS0955AEncodesSaid := over
#print axioms proved
end Go.Proofs.Ybulkstg.lawS0955AEncodes
