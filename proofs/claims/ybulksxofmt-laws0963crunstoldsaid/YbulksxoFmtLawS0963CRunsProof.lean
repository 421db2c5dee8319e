import Derived.Test.YbulksxoFmtCards
import Derived.Test.YbulksxoFmtTie
import Derived.Test.YbulksxoFmtLawB
import Derived.Deep.Slices
import Derived.Deep.Strs
import Derived.ProofKit
import Derived.OpenShut
import Derived.ShutString
import Derived.ChangeOld
import Derived.Below
import Derived.OpenVars
import Derived.LaidLaws
import Derived.Lib.LaidTab
import Derived.Stop.Joined
import Derived.Stop.JoinedAt
import Derived.Stop.JoinedTold
import Derived.SevenTiedAt
namespace Go.Proofs.YbulksxoFmt.lawS0963CRuns
open Go.ChangeShapes Go.WideShapes Go.ChangeAt Go.RowKit
open Go.Extern.Stop Go.Stop Go.Extern

theorem own : ownKnob Ybaf.prog.godebug = none := by kernel_rfl
theorem laidOut : laidOutB Ybaf.prog = true := by kernel_rfl
theorem cells31 : Ybaf.prog.cellsOf 31 = 3 := by kernel_rfl
theorem cells4 : Ybaf.prog.cellsOf 4 = 1 := by kernel_rfl
theorem cells5 : Ybaf.prog.cellsOf 5 = 1 := by kernel_rfl
theorem cells43 : Ybaf.prog.cellsOf 43 = 4 := by kernel_rfl
theorem under43 : Ybaf.prog.underlying 43 = some (.array 4 5) := by kernel_rfl
theorem under5 : Ybaf.prog.underlying 5 = some (.int .u8) := by kernel_rfl

/-- The script, opened. -/
theorem open_ops {H : Type} {enc : TypeId × Value → H} {W : World} {base : Nat} {spare : Nat → Bool} {held : Bool} {fuel : Nat} {ao : Option Addr} {n c : Nat} {x : DataW H × List MemPlace} (h : DataW.trod enc Ybaf.prog W base spare held fuel 22 [.slice ao n c] = some x) :
    n = 0 ∨ ∃ p q G Z E, ao = some ⟨p, q, none⟩ ∧ Bx.Op3 W p q n G Z E := by
  rcases Go.Deep.open_slice Ybaf.underlying22 h with ⟨h0, _⟩ | ⟨a, len, cap, m, k, D, Pl, hcs, _, hl, _, hmm, _, hx⟩
  · left
    cases h0
    rfl
  · cases hcs
    rcases Nat.eq_zero_or_pos n with h0 | h0
    · exact Or.inl h0
    right
    have hlm : n ≤ m := by rw [hmm]; split <;> omega
    have each : ∀ i, i < n → ∃ v : Bool × Nat × Nat, W.cell? (a.add (i * 3)) = some (.bool v.1) ∧ W.cell? (a.add (i * 3 + 1)) = some (.int .u8 (v.2.1 : Nat)) ∧ W.cell? (a.add (i * 3 + 2)) = some (.int .u8 (v.2.2 : Nat)) ∧ v.2.1 < 256 ∧ v.2.2 < 256 := by
      intro i hi
      obtain ⟨cs', h1, h2⟩ := hx i (by omega)
      rw [cells31] at h1
      obtain ⟨_, hlen, hcell⟩ := World.cells?_some h1
      obtain ⟨y0, y1, y2, k', _, _, g0, g1, g2⟩ := Go.Deep.trod_struct3 Ybaf.underlying31 h2
      match cs', hlen with
      | [v0, v1, v2], _ =>
        simp only [cells4, cells5] at g0 g1 g2
        obtain ⟨x0, e0, _⟩ := DataW.trod_bool Ybaf.underlying4 g0
        obtain ⟨x1, e1, _, w1⟩ := DataW.trod_int Ybaf.underlying5 g1
        obtain ⟨x2, e2, _, w2⟩ := DataW.trod_int Ybaf.underlying5 g2
        simp at e0 e1 e2
        subst e0 e1 e2
        have b1 := bounds_u8 w1
        have b2 := bounds_u8 w2
        have c0 := hcell 0 (by omega)
        have c1 := hcell 1 (by omega)
        have c2 := hcell 2 (by omega)
        rw [Go.Deep.add_add] at c0 c1 c2
        refine ⟨(x0, x1.toNat, x2.toNat), ?_, ?_, ?_, by simp; omega, by simp; omega⟩
        · simpa using c0
        · simpa [Int.toNat_of_nonneg b1.1] using c1
        · simpa [Int.toNat_of_nonneg b2.1] using c2
    obtain ⟨f, hf⟩ := Go.Deep.choose_lt each
    obtain ⟨p, q, spot⟩ := a
    have hspot : spot = none := by simpa [Addr.add] using World.cell?_spot (hf 0 h0).1
    subst hspot
    refine ⟨p, q, fun i => (f i).1, fun i => (f i).2.1, fun i => (f i).2.2, rfl, fun i hi => ?_, fun i hi => ?_, fun i hi => ?_, fun i hi => (hf i hi).2.2.2⟩
    · rw [← Go.WideShapes.add_plain]; exact (hf i hi).1
    · rw [Nat.add_assoc, ← Go.WideShapes.add_plain]; exact (hf i hi).2.1
    · rw [Nat.add_assoc, ← Go.WideShapes.add_plain]; exact (hf i hi).2.2.1

/-! ### the listed variables -/
theorem reads_laid {P : Program} {w : World} : ∀ {l : List (String × DataW Unit)} {ps : List MemPlace}, DataW.LaidVars P w l ps → ∀ n d, (n, d) ∈ l →
    ∃ g t cs fuel p, P.globalNamed n = some g ∧ (P.globals[g]?).map (·.type) = some t ∧ w.var? P n = some cs ∧ DataW.trod (fun _ => ()) P w 0 (fun _ => true) false fuel t cs.toList = some (d, p)
  | [], _, _, _, _, hm => by cases hm
  | (n', d') :: r, ps, h, n, d, hm => by
    obtain ⟨g, t, cs, fuel, p, q, h1, h2, h3, h4, h5, _⟩ := h
    rcases List.mem_cons.1 hm with e | e
    · cases e
      exact ⟨g, t, cs, fuel, p, h1, h2, h3, h4⟩
    · exact reads_laid h5 n d e

theorem gl_laid {W : World} {name : String} {g : Nat} {x0 x1 x2 x3 : Int} (hm : laidMet Ybaf.prog Rows.lawS0963CRunsRow.laid W) (hn : Ybaf.prog.globalNamed name = some g) (ht : (Ybaf.prog.globals[g]?).map (·.type) = some 43)
    (hin : (name, (Go.Lib.tabData .u8 [x0, x1, x2, x3] : DataW Unit)) ∈ Rows.lawS0963CRunsRow.laid) : Bx.Gl W g x0 x1 x2 x3 := by
  obtain ⟨ps, hv, _⟩ := hm
  obtain ⟨g', t, cs, fuel, p, h1, h2, h3, h4⟩ := reads_laid hv _ _ hin
  obtain rfl := Option.some.inj (hn.symm.trans h1)
  obtain rfl := Option.some.inj (ht.symm.trans h2)
  have hcs := Go.Lib.cells_of_tab under43 under5 cells5 cells43 h4
  have hc : ∀ j, W.cell? ⟨g, j, none⟩ = ([x0, x1, x2, x3].map fun z => Value.int .u8 z)[j]? := fun j => by
    rw [World.var?_cell hn h3 j, ← Array.getElem?_toList, hcs]
  exact ⟨hc 0, hc 1, hc 2, hc 3⟩

theorem gls_laid {W : World} (hm : laidMet Ybaf.prog Rows.lawS0963CRunsRow.laid W) : Bx.Gls W :=
  ⟨gl_laid (name := "example.com/moovwright/moovwright/internal/mp4.typeStts") hm (by kernel_rfl) (by kernel_rfl) (.tail _ (.tail _ (.tail _ (.tail _ (.tail _ (.tail _ (.head _))))))),
   gl_laid (name := "example.com/moovwright/moovwright/internal/mp4.typeCtts") hm (by kernel_rfl) (by kernel_rfl) (.tail _ (.head _)),
   gl_laid (name := "example.com/moovwright/moovwright/internal/mp4.typeStsz") hm (by kernel_rfl) (by kernel_rfl) (.tail _ (.tail _ (.tail _ (.tail _ (.tail _ (.head _)))))),
   gl_laid (name := "example.com/moovwright/moovwright/internal/mp4.typeStsc") hm (by kernel_rfl) (by kernel_rfl) (.tail _ (.tail _ (.tail _ (.head _)))),
   gl_laid (name := "example.com/moovwright/moovwright/internal/mp4.typeStco") hm (by kernel_rfl) (by kernel_rfl) (.tail _ (.tail _ (.head _)))⟩

/-- What the variable in block g holds at the shown start. -/
def tag : Nat → Array Value
  | 0 => #[.int .u8 115, .int .u8 116, .int .u8 116, .int .u8 115]
  | 1 => #[.int .u8 99, .int .u8 116, .int .u8 116, .int .u8 115]
  | 2 => #[.int .u8 115, .int .u8 116, .int .u8 115, .int .u8 122]
  | 3 => #[.int .u8 115, .int .u8 116, .int .u8 115, .int .u8 99]
  | 4 => #[.int .u8 115, .int .u8 116, .int .u8 99, .int .u8 111]
  | 5 => #[.int .u8 115, .int .u8 116, .int .u8 115, .int .u8 115]
  | _ => #[.int .u8 99, .int .u8 111, .int .u8 54, .int .u8 52]
def lay (g : Nat) (h : Array Obj) : Array Obj := h.modify g fun
  | .cells _ t frozen => .cells (tag g) t frozen
  | o => o
theorem laid_met (os : Os) (args : Array Value) : laidMet Ybaf.prog Rows.lawS0963CRunsRow.laid (({ World.holding Ybaf.prog os ⟨#[], #[], []⟩ with heap := lay 7 (lay 5 (lay 4 (lay 3 (lay 2 (lay 1 (lay 0 (World.holding Ybaf.prog os ⟨#[], #[], []⟩).heap)))))) } : World).forCall (fun _ _ => 0) ⟨#[], args, []⟩).memory :=
  laidMet_of_run' 8 (by kernel_rfl) (by kernel_rfl)

theorem vars_seven {H : Type} {enc : TypeId × Value → H} {P : Program} {w : World} {spare : Nat → Bool} {n1 n2 n3 n4 n5 n6 n7 : String} {gs : List (DataW H)} {ps : List MemPlace} (h : DataW.TrodVars enc P w spare [n1, n2, n3, n4, n5, n6, n7] gs ps) : ∃ g1 g2 g3 g4 g5 g6 g7, gs = [g1, g2, g3, g4, g5, g6, g7] := by
  match gs, h with
  | [g1, g2, g3, g4, g5, g6, g7], _ => exact ⟨g1, g2, g3, g4, g5, g6, g7, rfl⟩
  | [], h => exact h.elim
  | [_], h => obtain ⟨_, _, _, _, _, _, _, _, _, _, h, _⟩ := h; exact h.elim
  | [_, _], h => obtain ⟨_, _, _, _, _, _, _, _, _, _, ⟨_, _, _, _, _, _, _, _, _, _, h, _⟩, _⟩ := h; exact h.elim
  | [_, _, _], h => obtain ⟨_, _, _, _, _, _, _, _, _, _, ⟨_, _, _, _, _, _, _, _, _, _, ⟨_, _, _, _, _, _, _, _, _, _, h, _⟩, _⟩, _⟩ := h; exact h.elim
  | [_, _, _, _], h => obtain ⟨_, _, _, _, _, _, _, _, _, _, ⟨_, _, _, _, _, _, _, _, _, _, ⟨_, _, _, _, _, _, _, _, _, _, ⟨_, _, _, _, _, _, _, _, _, _, h, _⟩, _⟩, _⟩, _⟩ := h; exact h.elim
  | [_, _, _, _, _], h => obtain ⟨_, _, _, _, _, _, _, _, _, _, ⟨_, _, _, _, _, _, _, _, _, _, ⟨_, _, _, _, _, _, _, _, _, _, ⟨_, _, _, _, _, _, _, _, _, _, ⟨_, _, _, _, _, _, _, _, _, _, h, _⟩, _⟩, _⟩, _⟩, _⟩ := h; exact h.elim
  | [_, _, _, _, _, _], h => obtain ⟨_, _, _, _, _, _, _, _, _, _, ⟨_, _, _, _, _, _, _, _, _, _, ⟨_, _, _, _, _, _, _, _, _, _, ⟨_, _, _, _, _, _, _, _, _, _, ⟨_, _, _, _, _, _, _, _, _, _, ⟨_, _, _, _, _, _, _, _, _, _, h, _⟩, _⟩, _⟩, _⟩, _⟩, _⟩ := h; exact h.elim
  | _ :: _ :: _ :: _ :: _ :: _ :: _ :: _ :: _, h => obtain ⟨_, _, _, _, _, _, _, _, _, _, ⟨_, _, _, _, _, _, _, _, _, _, ⟨_, _, _, _, _, _, _, _, _, _, ⟨_, _, _, _, _, _, _, _, _, _, ⟨_, _, _, _, _, _, _, _, _, _, ⟨_, _, _, _, _, _, _, _, _, _, ⟨_, _, _, _, _, _, _, _, _, _, h, _⟩, _⟩, _⟩, _⟩, _⟩, _⟩, _⟩ := h; exact h.elim

set_option maxRecDepth 100000 in
theorem lifted (os : Os) (started : os.Started) (H : Type) (enc : TypeId × Value → H) :
    ReturnsInTold none {} Ybaf.checked os 3 .any Input.okWide ((OpenSpec.ofChange Rows.lawS0963CRunsSpec).preRow enc Ybaf.prog Ybaf.f3 [] false Rows.lawS0963CRunsRow.laid) (fun F => ((OpenSpec.ofChange Rows.lawS0963CRunsSpec).at F).post enc Ybaf.prog Ybaf.f3 false true false false) (aloneAtReturn Ybaf.prog) nothingAlways := by
  refine returnsInTold_of_row (C := Ybaf.checked) (s := OpenSpec.ofChange Rows.lawS0963CRunsSpec) (by kernel_rfl) own started (by kernel_rfl) Ybaf.func3
    (OpenSpec.witness_stopped_at (enc := enc) (C := Ybaf.checked) false ({ World.holding Ybaf.prog os ⟨#[], #[], []⟩ with heap := lay 7 (lay 5 (lay 4 (lay 3 (lay 2 (lay 1 (lay 0 (World.holding Ybaf.prog os ⟨#[], #[], []⟩).heap)))))) } : World) #[.slice none 0 0] rfl (by kernel_rfl) (by kernel_rfl) (by kernel_rfl)
      (OpenSpec.preRow_of_B rfl 8 (by kernel_rfl) (by kernel_rfl) (laid_met os _))) ?_
  intro F W base args ds gs before _ _ hval0 hW _ _ _ hL _
  have hval : ∀ (j : Nat) t v, Ybaf.f3.params[j]? = some t → args[j]? = some v → Value.okWide Ybaf.prog W .any base t v := hval0
  have hW' := hW
  obtain ⟨p, q, hA0, hV, rfl, hfz, hnd⟩ := hW
  have hA : DataW.TrodAll enc Ybaf.prog W 0 (fun _ => true) true Ybaf.f3.params.toList args.toList ds p := hA0
  rw [Ybaf.params3] at hA hval
  obtain ⟨v0, d0, rfl, rfl, h0⟩ := trodAll_one hA
  obtain ⟨g1, g2, g3, g4, g5, g6, g7, rfl⟩ := vars_seven hV
  obtain ⟨a0, len0, cap0, rfl⟩ := okWide_slice Ybaf.underlying22 (hval 0 22 v0 rfl rfl)
  have k0 := h0
  have lt0 : ∀ x ∈ p, x.block < W.heap.size := by obtain ⟨m, hm⟩ := k0; exact DataW.trod_lt m _ _ _ hm
  have hE : len0 = 0 ∨ ∃ p q G Z E, a0 = some ⟨p, q, none⟩ ∧ Bx.Op3 W p q len0 G Z E := by
    obtain ⟨fuel, hf⟩ := h0
    exact open_ops hf
  have hG : Bx.Gls W := gls_laid hL
  clear hA0 hval0
  refine (Bx.law_any W a0 len0 cap0 hG hE).mono fun e W' ⟨he, bel⟩ => ?_
  subst he
  exact ⟨_, rfl, _, _, _, [], _, _, hW', trodAll_mk1 (shut_bool Ybaf.underlying4 _), trodAll_mk1 (Below.trod laidOut (by kernel_rfl) (of_decide_eq_true (by kernel_rfl)) k0 bel lt0), Below.trodVars laidOut bel (by kernel_rfl) hV, bel.frame _, fun h => by cases h⟩

def stopName : String := Rows.lawS0963CRunsRow.stops.headD ""
theorem stops : Ybaf.pinned.checked.prog.stops = [stopName] := by kernel_rfl
theorem stopKnobs : Ybaf.pinned.checked.prog.stopKnobs = [] := by kernel_rfl
theorem quiet (os : Os) : Stop.quiet Ybaf.pinned.checked.prog os := by
  intro k hk
  rw [stopKnobs] at hk
  cases hk

/-- THE STATEMENT -/
theorem proved : Rows.LawS0963CRunsToldSaid :=
  Claim7.holds_of_told_tied_any_at .later 3 Ybaf.f3 stopName [] [] _ _ _ _ _ (by kernel_rfl) rfl rfl rfl laidOut (by kernel_rfl) rfl ⟨rfl, rfl, rfl, rfl, rfl, rfl, rfl⟩ rfl rfl (by kernel_rfl) (by kernel_rfl) Ybaf.func3 (by kernel_rfl)
    (of_decide_eq_true (by kernel_rfl)) (of_decide_eq_true (by kernel_rfl)) stops.symm rfl stopKnobs.symm (by kernel_rfl)
    (by kernel_rfl) (by kernel_rfl) (by kernel_rfl) (by kernel_rfl) (by kernel_rfl) (by kernel_rfl) (by kernel_rfl) (by kernel_rfl) (by kernel_rfl) rfl (by kernel_rfl) rfl rfl
    rfl rfl
    rfl (by kernel_rfl) (by kernel_rfl) (by kernel_rfl) (by decide) (by kernel_rfl) lawS0963CRuns_row_tie
    (OpenClaim.moreEntering_of (by kernel_rfl) (by kernel_rfl) (by kernel_rfl) (by kernel_rfl) (by kernel_rfl) (by kernel_rfl) (by kernel_rfl) (by kernel_rfl) (by kernel_rfl) (by kernel_rfl))
    ⟨_, WideRow.started_initial, quiet _⟩
    (fun os started _ H enc _ => lifted os started H enc)

end Go.Proofs.YbulksxoFmt.lawS0963CRuns
