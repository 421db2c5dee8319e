import Derived.Test.YbulkstgRun
import Derived.Deep.Grids
import Derived.WalkKit
import Derived.ProofKit
import Derived.OpenShut
import Derived.ShutString
import Derived.ChangeOld
import Derived.Below
namespace Go.Proofs.Ybulkstg.lawS0955AFragments
open Go.ChangeShapes Go.WideShapes Go.ChangeAt Go.RowKit
open Go.ChangeMaps (open_string shut_string)
set_option linter.unusedVariables false

theorem own : ownKnob Yba.prog.godebug = none := by kernel_rfl
theorem laidOut : laidOutB Yba.prog = true := by kernel_rfl

theorem cells4 (w : World) : (Go.sizeOf (Yba.prog.elem 22)).run Yba.prog w = .ok 1 w := by
  have h : Yba.prog.elem 22 = 4 := by kernel_rfl
  have h4 : Yba.prog.cellsOf 4 = 1 := by kernel_rfl
  have hi : (Yba.prog.info? 4).map (fun i => (i.zero, i.size, i.bytes)) = some (some (.bool false), 1, 1) := by kernel_rfl
  obtain ⟨i0, hi, _⟩ := info_parts hi
  rw [h, run_sizeOf w hi, h4]
theorem under22 : Yba.prog.underlying 22 = some (.slice (Yba.prog.elem 22)) := by kernel_rfl
theorem slice64 (w : World) (ao : Option Addr) (len c : Nat) (h : 64 ≤ c) :
    (Instr.slice 22 (.slice ao len c) none (some (.int .i64 64)) none).run Yba.prog w = .ok (.slice ao 64 c) w := by
  rw [run_slice_h w 22 ao len c under22 .i64 64 (by omega) (by omega), cells4]
  simp only [Result.andThen, sliced]
  congr 2
  cases ao <;> simp [Addr.add]

/-! ### THE WALK -/
set_option maxHeartbeats 2000000 in
theorem walk (a0 : Option Addr) (len0 cap0 : Nat) (bs : List Bool) (a1 a2 a3 : Int) (w : World) (hb : bs.length = len0) (w0 : Buf.Sb w a0 cap0 bs) (w1 : (Lit.int .u8 a1).wf = true) (w2 : (Lit.int .u16 a2).wf = true) (w3 : (Lit.int .u8 a3).wf = true) :
    Calls Yba.prog 4 #[.slice a0 len0 cap0, .int .u8 a1, .int .u16 a2, .int .u8 a3] w fun e w' => e = .returned (.bool true) ∧ Below w.heap.size w w' := by
  have hle0 := w0.le
  rw [hb] at hle0
  have b1 := bounds_u8 w1
  have b2 := bounds_u16 w2
  have b3 := bounds_u8 w3
  obtain ⟨i0, hi, hz0, hz1, hz2⟩ := info_parts Buf.info5
  obtain ⟨N, hN⟩ : ∃ N : Nat, (N : Int) = 16384 * (a1 % 6) + a2 % 400 := ⟨(16384 * (a1 % 6) + a2 % 400).toNat, by omega⟩
  have hNb : N ≤ 82319 := by omega
  obtain ⟨wm, hmk, hown, hgrow⟩ := run_make_full (P := Yba.prog) w w.heap.size 23 5 i0 (.int .u8 0) 1 Yba.underlying23 hi hz0 hz1 .i64 .i64 N (by rw [hz2]; omega) (by unfold maxLen; omega) (Nat.le_refl _)
  rw [hN] at hmk
  rw [show (Value.int .u8 0).cells = #[Value.int .u8 0] from rfl, toList_madeCells_one] at hown
  have HN : Hid _ := hN
  clear hN
  have HB : Hid _ := hb
  clear hb
  by_cases h64 : 64 < len0
  · have hs := fun w => slice64 w a0 len0 cap0 (by omega)
    go_enter Yba.func4, Yba.ntmps4
    go_wp2
    go_loopw [11] (fun i wr => ∃ (k : Nat) (ys : List Int), k ≤ N ∧ i = .int .i64 (k : Int) ∧ ys.length = N ∧ wr.ownsRow w.heap.size 5 1 (.slice (some ⟨w.heap.size, 0, none⟩) N N) N (ys.map (Value.int .u8)) ∧ Below w.heap.size w wr)
      (fun i _ => N - (intOf i).toNat)
    case atStart => exact ⟨0, List.replicate N 0, Nat.zero_le _, rfl, by simp, by simpa using hown, (Below.refl _ _).grown hgrow (Nat.le_refl _) (by simp)⟩
    case round =>
      obtain ⟨k, ys, hk, rfl, hys, howr, hbr⟩ := hrel
      have HY : Hid _ := hys
      clear hmk hown hgrow hys
      have hNo := HN.out
      by_cases hlt : (k : Int) < 16384 * (a1 % 6) + a2 % 400
      · have hkN : (k : Int) < (N : Int) := by omega
        have hlty : k < ys.length := by rw [HY.out]; omega
        have hck : wr.cell? ⟨w.heap.size, k, none⟩ = some (.int .u8 ys[k]) := by
          rw [howr.cellAt k (by omega), List.getElem?_map, List.getElem?_eq_getElem hlty]
          rfl
        have hfk := howr.frozenAt k
        have hst : ∀ x : Int, (wr.setCell ⟨w.heap.size, k, none⟩ (.int .u8 x)).ownsRow w.heap.size 5 1 (.slice (some ⟨w.heap.size, 0, none⟩) N N) N ((ys.set k x).map (Value.int .u8)) := fun x => by rw [List.map_set]; exact (howr.stored k (.int .u8 x)).1
        have hsl : ∀ x : Int, (ys.set k x).length = N := fun x => by rw [List.length_set]; exact HY.out
        have HL : Hid _ := hsl
        clear hsl
        have HS : Hid _ := hst
        clear hst hNo
        generalize ys[k] = y0 at hck
        clear hlty
        go_wp2
        go_roundw
        case rel => exact ⟨k + 1, ys.set k _, by omega, by go_num, HL.out _, HS.out _, hbr.setCell (Nat.le_refl _) _⟩
        case measure => simp [intOf]; omega
      · obtain ⟨ao, c, hv, hsl⟩ := Buf.Sl.ofOwn (by rw [HY.out]; exact howr)
        rw [HY.out] at hv
        have hr := Buf.run_any wr a0 64 cap0 (bs.take 64) _ N N ys (by rw [List.length_take, HB.out]; omega) (by omega) ((w0.take 64).later hbr) HY.out (by omega) (by simp at hv; obtain ⟨rfl, rfl⟩ := hv; exact hsl)
        have HR : Hid _ := hr
        clear hr hv hsl hNo
        go_wp2_with fail
        refine Calls.mono HR.out ?_
        rintro e w' ⟨rfl, hbel⟩
        go_wp2
        go_ret
        exact ⟨rfl, hbr.trans (hbel.mono hbr.size)⟩
  · skip
    go_enter Yba.func4, Yba.ntmps4
    go_wp2
    go_loopw [11] (fun i wr => ∃ (k : Nat) (ys : List Int), k ≤ N ∧ i = .int .i64 (k : Int) ∧ ys.length = N ∧ wr.ownsRow w.heap.size 5 1 (.slice (some ⟨w.heap.size, 0, none⟩) N N) N (ys.map (Value.int .u8)) ∧ Below w.heap.size w wr)
      (fun i _ => N - (intOf i).toNat)
    case atStart => exact ⟨0, List.replicate N 0, Nat.zero_le _, rfl, by simp, by simpa using hown, (Below.refl _ _).grown hgrow (Nat.le_refl _) (by simp)⟩
    case round =>
      obtain ⟨k, ys, hk, rfl, hys, howr, hbr⟩ := hrel
      have HY : Hid _ := hys
      clear hmk hown hgrow hys
      have hNo := HN.out
      by_cases hlt : (k : Int) < 16384 * (a1 % 6) + a2 % 400
      · have hkN : (k : Int) < (N : Int) := by omega
        have hlty : k < ys.length := by rw [HY.out]; omega
        have hck : wr.cell? ⟨w.heap.size, k, none⟩ = some (.int .u8 ys[k]) := by
          rw [howr.cellAt k (by omega), List.getElem?_map, List.getElem?_eq_getElem hlty]
          rfl
        have hfk := howr.frozenAt k
        have hst : ∀ x : Int, (wr.setCell ⟨w.heap.size, k, none⟩ (.int .u8 x)).ownsRow w.heap.size 5 1 (.slice (some ⟨w.heap.size, 0, none⟩) N N) N ((ys.set k x).map (Value.int .u8)) := fun x => by rw [List.map_set]; exact (howr.stored k (.int .u8 x)).1
        have hsl : ∀ x : Int, (ys.set k x).length = N := fun x => by rw [List.length_set]; exact HY.out
        have HL : Hid _ := hsl
        clear hsl
        have HS : Hid _ := hst
        clear hst hNo
        generalize ys[k] = y0 at hck
        clear hlty
        go_wp2
        go_roundw
        case rel => exact ⟨k + 1, ys.set k _, by omega, by go_num, HL.out _, HS.out _, hbr.setCell (Nat.le_refl _) _⟩
        case measure => simp [intOf]; omega
      · obtain ⟨ao, c, hv, hsl⟩ := Buf.Sl.ofOwn (by rw [HY.out]; exact howr)
        rw [HY.out] at hv
        have hr := Buf.run_any wr a0 len0 cap0 (bs) _ N N ys HB.out (by omega) (w0.later hbr) HY.out (by omega) (by simp at hv; obtain ⟨rfl, rfl⟩ := hv; exact hsl)
        have HR : Hid _ := hr
        clear hr hv hsl hNo
        go_wp2_with fail
        refine Calls.mono HR.out ?_
        rintro e w' ⟨rfl, hbel⟩
        go_wp2
        go_ret
        exact ⟨rfl, hbr.trans (hbel.mono hbr.size)⟩

/-! ### THE ROW's STEP: WRITTEN OUT: LEAVE IT -/
set_option maxRecDepth 100000 in
theorem lifted (os : Os) (started : os.Started) (H : Type) (enc : TypeId × Value → H) :
    ReturnsInHanded {} Yba.checked os 4 .any (Rows.lawS0955AFragmentsSpec.pre6 enc Yba.prog Yba.f4 Rows.lawS0955AFragmentsRow.domain false) (Rows.lawS0955AFragmentsSpec.post enc Yba.prog Yba.f4 false true false false) := by
  refine returnsInHanded_of_change (C := Yba.checked) own started (by kernel_rfl) Yba.func4
    (ChangeSpec.witness6 (enc := enc) (C := Yba.checked) false ⟨#[], #[.slice none 0 0, .int .u8 0, .int .u16 0, .int .u8 0], []⟩ 8 (by kernel_rfl) (by kernel_rfl) (by kernel_rfl) (by kernel_rfl)) ?_
  intro W base args ds gs before hval0 hW hcnd _
  have hval : ∀ (j : Nat) t v, Yba.f4.params[j]? = some t → args[j]? = some v → Value.okWide Yba.prog W .any base t v := hval0
  have hW' := hW
  obtain ⟨p, q, hA0, hV, rfl, hfz, hnd⟩ := hW
  have hA : DataW.TrodAll enc Yba.prog W 0 (fun _ => true) true Yba.f4.params.toList args.toList ds p := hA0
  rw [Yba.params4] at hA hval
  obtain ⟨v0, vs0, d0, ds0, p0, q0, hargs, rfl, rfl, h0, r0⟩ := trodAll_cons hA
  obtain ⟨v1, vs1, d1, ds1, p1, q1, rfl, rfl, rfl, h1, r1⟩ := trodAll_cons r0
  obtain ⟨v2, vs2, d2, ds2, p2, q2, rfl, rfl, rfl, h2, r2⟩ := trodAll_cons r1
  obtain ⟨v3, vs3, d3, ds3, p3, q3, rfl, rfl, rfl, h3, r3⟩ := trodAll_cons r2
  obtain ⟨rfl, rfl, rfl⟩ := trodAll_nil r3
  obtain rfl : args = #[v0, v1, v2, v3] := by cases args; simp_all
  obtain ⟨rfl, rfl⟩ := trodVars_none hV
  obtain ⟨a0, len0, cap0, rfl⟩ := okWide_slice Yba.underlying22 (hval 0 22 v0 rfl rfl)
  have k0 := h0
  have lt0 : ∀ x ∈ p0, x.block < W.heap.size := by obtain ⟨m, hm⟩ := k0; exact DataW.trod_lt m _ _ _ hm
  obtain ⟨bs, hbs, w0⟩ : ∃ bs : List Bool, bs.length = len0 ∧ Buf.Sb W a0 cap0 bs := by
    obtain ⟨fuel, hf⟩ := h0
    rcases Go.Deep.open_bools Yba.underlying22 Yba.underlying4 (by kernel_rfl) hf with ⟨hcs, _⟩ | ⟨x, l, c, f, hcs, _, hl, hm, _, hcell⟩
    · simp [Value.cells] at hcs
      obtain ⟨rfl, rfl, rfl⟩ := hcs
      exact ⟨[], rfl, by simp, by simp [maxLen], (fun a ha => by cases ha), fun _ => rfl⟩
    · simp [Value.cells] at hcs
      obtain ⟨rfl, rfl, rfl⟩ := hcs
      refine ⟨(List.range len0).map f, by simp, by simpa using hl, hm, fun a ha j hj => ?_, fun ha => by cases ha⟩
      simp at ha hj
      subst ha
      rw [hcell j (by omega)]
      simp [hj]
  obtain ⟨a1, rfl, rfl, rfl, w1⟩ := open_int Yba.underlying5 (hval 1 5 v1 rfl rfl) h1
  obtain ⟨a2, rfl, rfl, rfl, w2⟩ := open_int Yba.underlying25 (hval 2 25 v2 rfl rfl) h2
  obtain ⟨a3, rfl, rfl, rfl, w3⟩ := open_int Yba.underlying5 (hval 3 5 v3 rfl rfl) h3
  clear hA0 hval0
  refine (walk a0 len0 cap0 bs a1 a2 a3 W hbs w0 w1 w2 w3).mono fun e W' ⟨he, bel⟩ => ?_
  subst he
  exact ⟨_, rfl, _, _, _, [], _, [], hW', trodAll_mk1 (shut_bool Yba.underlying4 _), (trodAll_cons_mk (Below.trod laidOut (by kernel_rfl) (of_decide_eq_true (by kernel_rfl)) k0 bel lt0) (trodAll_cons_mk (shut_int Yba.underlying5 w1) (trodAll_cons_mk (shut_int Yba.underlying25 w2) (trodAll_cons_mk (shut_int Yba.underlying5 w3) trodAll_mk0)))), rfl, bel.frame _, fun h => by cases h⟩

theorem over : Rows.lawS0955AFragmentsRow.holds Yba.pinned (OpenSpec.ofChange Rows.lawS0955AFragmentsSpec) :=
  OpenClaim.holds_of_wide 4 Yba.f4 rfl rfl rfl rfl rfl rfl rfl ⟨rfl, rfl, rfl, rfl, rfl⟩ rfl rfl rfl rfl rfl (by kernel_rfl) Yba.func4 (by kernel_rfl)
    (of_decide_eq_true (by kernel_rfl)) (by unfold Func.isWrapper; first | (rw [if_pos (by decide +kernel)]; kernel_rfl) | (rw [if_neg (by decide +kernel)]; exact ⟨rfl, rfl⟩))
    (fun os started H enc _ => lifted os started H enc)

/-- ████ THE STATEMENT ████ -/
theorem proved : Rows.LawS0955AFragmentsSaid := over
#print axioms proved
end Go.Proofs.Ybulkstg.lawS0955AFragments
