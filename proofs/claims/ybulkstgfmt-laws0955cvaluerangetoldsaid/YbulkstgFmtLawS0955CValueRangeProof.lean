import Derived.Test.YbulkstgFmtCards
import Derived.Test.YbulkstgFmtLawThree
import Derived.Test.YbulkstgFmtLawThreeB
import Derived.Test.YbulkstgFmtLawThreeE
import Derived.Test.YbulkstgFmtLawThreeF
import Derived.Test.YbulkstgFmtLawThreeG
import Derived.Test.YbulkstgFmtLawThreeH
import Derived.ProofKit
import Derived.OpenShut
import Derived.ShutString
import Derived.Below
import Derived.Stop.JoinedAt
import Derived.Stop.Texts
import Derived.Stop.JoinedTold
import Derived.SevenToldRow
namespace Go.Proofs.YbulkstgFmt.lawS0955CValueRange
open Go.ChangeShapes Go.WideShapes Go.ChangeAt Go.RowKit
open Go.ChangeMaps (open_string shut_string)
open Go.Extern.Stop Go.Stop Go.Extern

theorem own : ownKnob Ybaf.prog.godebug = none := by kernel_rfl

set_option maxRecDepth 100000 in
theorem big (w : World) (ao : Option Addr) (n c : Nat) (f : ByteArray) (h : 1024 < n) :
    Calls Ybaf.prog 3 #[.slice ao n c, .string f] w fun e w' => e = .returned (.bool true) ∧ Below w.heap.size w w' := by
  go_enter Ybaf.func3, Ybaf.ntmps3
  go_wp2
  go_ret
  exact ⟨rfl, Below.refl _ _⟩

theorem walk (F : Interp) (w : World) (ao : Option Addr) (n c : Nat) (xs : List Int) (f : ByteArray) (hF : F.answers w.tape) (hn : xs.length = n) (hx : Tk.Sl w ao c xs) (hxs : ∀ x ∈ xs, 0 ≤ x ∧ x < 256) :
    Calls Ybaf.prog 3 #[.slice ao n c, .string f] w fun e w' => e = .returned (.bool true) ∧ Below w.heap.size w w' := by
  by_cases h1 : 1024 < n
  · exact big w ao n c f h1
  have hn1 : n ≤ 1024 := by omega
  cases hv : Tk.vend n (Tk.TT xs f) 0 with
  | none => exact Tk.law_verr F w ao n c xs f hF hn hn1 hx hxs hv
  | some e =>
    cases hl : Tk.tis (Tk.tokAt n (Tk.TT xs f) e) ⟨#[60]⟩ with
    | false =>
      by_cases hr : (Tk.tokAt n (Tk.TT xs f) e).kind = 6
      · cases hl2 : Tk.tis (Tk.tokAt n (Tk.TT xs f) (e + 1)) ⟨#[60]⟩ with
        | false =>
          cases hv2 : Tk.vend n (Tk.TT xs f) (e + 1) with
          | none => exact Tk.law_rng_00_err F w ao n c xs f hF hn hn1 hx hxs e hv hl hr hl2 hv2
          | some e3 => exact Tk.law_rng_00_ok F w ao n c xs f hF hn hn1 hx hxs e hv hl hr hl2 e3 hv2
        | true =>
          cases hv2 : Tk.vend n (Tk.TT xs f) (e + 2) with
          | none => exact Tk.law_rng_01_err F w ao n c xs f hF hn hn1 hx hxs e hv hl hr hl2 hv2
          | some e3 => exact Tk.law_rng_01_ok F w ao n c xs f hF hn hn1 hx hxs e hv hl hr hl2 e3 hv2
      · exact Tk.law_plain F w ao n c xs f hF hn hn1 hx hxs e hv hl hr
    | true =>
      by_cases hr : (Tk.tokAt n (Tk.TT xs f) (e + 1)).kind = 6
      · cases hl2 : Tk.tis (Tk.tokAt n (Tk.TT xs f) (e + 2)) ⟨#[60]⟩ with
        | false =>
          cases hv2 : Tk.vend n (Tk.TT xs f) (e + 2) with
          | none => exact Tk.law_rng_10_err F w ao n c xs f hF hn hn1 hx hxs e hv hl hr hl2 hv2
          | some e3 => exact Tk.law_rng_10_ok F w ao n c xs f hF hn hn1 hx hxs e hv hl hr hl2 e3 hv2
        | true =>
          cases hv2 : Tk.vend n (Tk.TT xs f) (e + 3) with
          | none => exact Tk.law_rng_11_err F w ao n c xs f hF hn hn1 hx hxs e hv hl hr hl2 hv2
          | some e3 => exact Tk.law_rng_11_ok F w ao n c xs f hF hn hn1 hx hxs e hv hl hr hl2 e3 hv2
      · have ht := Tk.less_t hl
        refine Tk.law_loerr F w ao n c xs f hF hn hn1 hx hxs e hv ht.1 (by simpa using ht.2.1) (by simpa using ht.2.2) ?_
        rintro ⟨hj, h6⟩
        apply hr
        rw [Tk.tokAt_lt hj]; exact h6

theorem laid : laidOutB Ybaf.prog = true := by kernel_rfl

set_option maxRecDepth 100000 in
theorem lifted (os : Os) (started : os.Started) (H : Type) (enc : TypeId × Value → H) :
    ReturnsInTold none {} Ybaf.checked os 3 .any Input.okWide ((OpenSpec.ofChange Rows.lawS0955CValueRangeSpec).preRow enc Ybaf.prog Ybaf.f3 [] false []) (fun F => ((OpenSpec.ofChange Rows.lawS0955CValueRangeSpec).at F).post enc Ybaf.prog Ybaf.f3 false true false false) (aloneAtReturn Ybaf.prog) nothingAlways := by
  refine returnsInTold_of_row (C := Ybaf.checked) (s := OpenSpec.ofChange Rows.lawS0955CValueRangeSpec) (by kernel_rfl) own started (by kernel_rfl) Ybaf.func3
    (OpenSpec.witness_stopped (enc := enc) (C := Ybaf.checked) false ⟨#[], #[.slice none 0 0, .string ⟨#[]⟩], []⟩ 8 (by kernel_rfl) (by kernel_rfl) (by kernel_rfl) (by kernel_rfl)) ?_
  intro F W base args ds gs before _ hF hval0 hW _ _ hsz _ _
  have hval : ∀ (j : Nat) t v, Ybaf.f3.params[j]? = some t → args[j]? = some v → Value.okWide Ybaf.prog W .any base t v := hval0
  have hW' := hW
  obtain ⟨p, q, hA0, hV, rfl, hfz, hnd⟩ := hW
  have hA : DataW.TrodAll enc Ybaf.prog W 0 (fun _ => true) true Ybaf.f3.params.toList args.toList ds p := hA0
  rw [Ybaf.params3] at hA hval
  obtain ⟨v0, v1, d0, d1, p0, p1, rfl, rfl, rfl, h0, h1⟩ := trodAll_two hA
  obtain ⟨rfl, rfl⟩ := trodVars_none hV
  obtain ⟨a0, len0, cap0, rfl⟩ := okWide_slice Ybaf.underlying22 (hval 0 22 v0 rfl rfl)
  have k0 := h0
  have lt0 : ∀ x ∈ p0, x.block < W.heap.size := by obtain ⟨m, hm⟩ := k0; exact DataW.trod_lt m _ _ _ hm
  obtain ⟨xs, hxs, w1, hbd⟩ : ∃ xs : List Int, xs.length = len0 ∧ Tk.Sl W a0 cap0 xs ∧ ∀ x ∈ xs, 0 ≤ x ∧ x < 256 := by
    obtain ⟨fuel, hf⟩ := h0
    rcases open_ints Ybaf.underlying22 Ybaf.underlying5 (by kernel_rfl) hf with ⟨hcs, _⟩ | ⟨x, l, c, zs, hcs, _, hl, hm, hz, _, hcell, hwz⟩
    · simp [Value.cells] at hcs
      obtain ⟨rfl, rfl, rfl⟩ := hcs
      exact ⟨[], rfl, ⟨by simp, by simp [maxLen], fun _ => rfl, fun a ha => by cases ha⟩, fun x hx => by cases hx⟩
    · simp [Value.cells] at hcs
      obtain ⟨rfl, rfl, rfl⟩ := hcs
      have hz' : zs.length = cap0 := by simpa using hz
      refine ⟨zs.take len0, by rw [List.length_take]; omega, ⟨by rw [List.length_take]; omega, hm, (fun ha => by cases ha), fun a ha j u hj => ?_⟩, fun x hx => ?_⟩
      · simp at ha
        subst ha
        rw [List.map_take, List.getElem?_take] at hj
        split at hj
        · rename_i hjl
          rw [hcell j (by omega)]
          rw [List.getElem?_map, List.getElem?_eq_getElem (by omega)] at hj
          rw [← hj, List.getD, List.getElem?_eq_getElem (by omega)]
          rfl
        · cases hj
      · have := bounds_u8 (hwz x (List.mem_of_mem_take hx))
        omega
  obtain ⟨f, rfl, rfl, rfl, wf⟩ := open_string Ybaf.underlying9 (hval 1 9 v1 rfl rfl) h1
  clear hA0 hval0
  refine (walk F.told W a0 len0 cap0 xs f hF hxs w1 hbd).mono fun e W' ⟨he, bel⟩ => ?_
  subst he
  exact ⟨_, rfl, _, _, _, [], _, [], hW', trodAll_mk1 (shut_bool Ybaf.underlying4 _), trodAll_mk2 (Below.trod laid (by kernel_rfl) (of_decide_eq_true (by kernel_rfl)) k0 bel lt0) (shut_string Ybaf.underlying9 wf), rfl, bel.frame _, fun h => by cases h⟩

theorem laidOut : laidOutB Ybaf.pinned.checked.prog = true := by kernel_rfl
def stopName : String := Rows.lawS0955CValueRangeRow.stops.headD ""
theorem stops : Ybaf.pinned.checked.prog.stops = [stopName] := by kernel_rfl
theorem stopKnobs : Ybaf.pinned.checked.prog.stopKnobs = [] := by kernel_rfl
theorem quiet (os : Os) : Stop.quiet Ybaf.pinned.checked.prog os := by
  intro k hk
  rw [stopKnobs] at hk
  cases hk

/-- THE STATEMENT -/
theorem proved : Rows.LawS0955CValueRangeToldSaid :=
  Claim7.holds_of_told_any 3 Ybaf.f3 stopName [] [] _ _ _ (by kernel_rfl) rfl rfl rfl laidOut (by kernel_rfl) rfl ⟨rfl, rfl, rfl, rfl, rfl, rfl, rfl⟩ rfl rfl (by kernel_rfl) (by kernel_rfl) Ybaf.func3 (by kernel_rfl)
    (of_decide_eq_true (by kernel_rfl)) (of_decide_eq_true (by kernel_rfl)) stops.symm rfl stopKnobs.symm (by kernel_rfl)
    (by kernel_rfl) (by kernel_rfl) (by kernel_rfl) (by kernel_rfl) (by kernel_rfl) (by kernel_rfl) (by kernel_rfl) (by kernel_rfl) (by kernel_rfl) rfl (by kernel_rfl) rfl rfl
    rfl rfl
    rfl (by kernel_rfl) (by kernel_rfl) (by kernel_rfl) (by decide) (by kernel_rfl)
    (OpenClaim.moreEntering_of (by kernel_rfl) (by kernel_rfl) (by kernel_rfl) (by kernel_rfl) (by kernel_rfl) (by kernel_rfl) (by kernel_rfl) (by kernel_rfl) (by kernel_rfl) (by kernel_rfl))
    ⟨_, WideRow.started_initial, quiet _⟩
    (fun os started _ H enc _ => lifted os started H enc)
end Go.Proofs.YbulkstgFmt.lawS0955CValueRange
