import Derived.Test.YbulksxoLawB
import Derived.Test.YbulksxoLawC
import Derived.Test.YbulksxoLawD
import Derived.Test.YbulksxoLawE
import Derived.Test.YbulksxoLawF
import Derived.Test.YbulksxoLawG
import Derived.Deep.Slices
import Derived.Deep.Strs
import Derived.ProofKit
import Derived.OpenShut
import Derived.ShutString
import Derived.ChangeOld
import Derived.Below
namespace Go.Proofs.Ybulksxo.lawS0963CExact
open Go.ChangeShapes Go.WideShapes Go.ChangeAt Go.RowKit

theorem own : ownKnob Yba.prog.godebug = none := by kernel_rfl
theorem laidOut : laidOutB Yba.prog = true := by kernel_rfl
theorem cells25 : Yba.prog.cellsOf 25 = 3 := by kernel_rfl
theorem cells23 : Yba.prog.cellsOf 23 = 1 := by kernel_rfl

/-- The slice of triples, opened. -/
theorem open_triples {H : Type} {enc : TypeId × Value → H} {W : World} {base : Nat} {spare : Nat → Bool} {held : Bool} {fuel : Nat} {ao : Option Addr} {n c : Nat} {x : DataW H × List MemPlace} (h : DataW.trod enc Yba.prog W base spare held fuel 22 [.slice ao n c] = some x) :
    n = 0 ∨ ∃ p q X Y Z, ao = some ⟨p, q, none⟩ ∧ Bx.En W p q n X Y Z := by
  rcases Go.Deep.open_slice Yba.underlying22 h with ⟨h0, _⟩ | ⟨a, len, cap, m, k, D, Pl, hcs, _, hl, _, hmm, _, hx⟩
  · left
    cases h0
    rfl
  · cases hcs
    rcases Nat.eq_zero_or_pos n with h0 | h0
    · exact Or.inl h0
    right
    have hlm : n ≤ m := by rw [hmm]; split <;> omega
    have each : ∀ i, i < n → ∃ v : Nat × Nat × Nat, W.cell? (a.add (i * 3)) = some (.int .u32 (v.1 : Nat)) ∧ W.cell? (a.add (i * 3 + 1)) = some (.int .u32 (v.2.1 : Nat)) ∧ W.cell? (a.add (i * 3 + 2)) = some (.int .u32 (v.2.2 : Nat)) ∧ v.1 < 4294967296 ∧ v.2.1 < 4294967296 ∧ v.2.2 < 4294967296 := by
      intro i hi
      obtain ⟨cs', h1, h2⟩ := hx i (by omega)
      rw [cells25] at h1
      obtain ⟨_, hlen, hcell⟩ := World.cells?_some h1
      obtain ⟨y0, y1, y2, k', _, _, g0, g1, g2⟩ := Go.Deep.trod_struct3 Yba.underlying25 h2
      match cs', hlen with
      | [v0, v1, v2], _ =>
        simp only [cells23] at g0 g1 g2
        obtain ⟨x0, e0, _, w0⟩ := DataW.trod_int Yba.underlying23 g0
        obtain ⟨x1, e1, _, w1⟩ := DataW.trod_int Yba.underlying23 g1
        obtain ⟨x2, e2, _, w2⟩ := DataW.trod_int Yba.underlying23 g2
        simp at e0 e1 e2
        subst e0 e1 e2
        have b0 := bounds_u32 w0
        have b1 := bounds_u32 w1
        have b2 := bounds_u32 w2
        have c0 := hcell 0 (by omega)
        have c1 := hcell 1 (by omega)
        have c2 := hcell 2 (by omega)
        rw [Go.Deep.add_add] at c0 c1 c2
        refine ⟨(x0.toNat, x1.toNat, x2.toNat), ?_, ?_, ?_, by simp; omega, by simp; omega, by simp; omega⟩
        · simpa [Int.toNat_of_nonneg b0.1] using c0
        · simpa [Int.toNat_of_nonneg b1.1] using c1
        · simpa [Int.toNat_of_nonneg b2.1] using c2
    obtain ⟨f, hf⟩ := Go.Deep.choose_lt each
    obtain ⟨p, q, spot⟩ := a
    have hspot : spot = none := by simpa [Addr.add] using World.cell?_spot (hf 0 h0).1
    subst hspot
    refine ⟨p, q, fun i => (f i).1, fun i => (f i).2.1, fun i => (f i).2.2, rfl, fun i hi => ?_, fun i hi => ?_, fun i hi => ?_, fun i hi => (hf i hi).2.2.2⟩
    · rw [← Go.WideShapes.add_plain]; exact (hf i hi).1
    · rw [Nat.add_assoc, ← Go.WideShapes.add_plain]; exact (hf i hi).2.1
    · rw [Nat.add_assoc, ← Go.WideShapes.add_plain]; exact (hf i hi).2.2.1

set_option maxRecDepth 100000 in
theorem big (w : World) (ao : Option Addr) (n c : Nat) (x y z s : Int) (h : 1024 < n) :
    Calls Yba.prog 3 #[.slice ao n c, .int .u32 x, .int .u32 y, .int .u32 z, .int .u8 s] w fun e w' => e = .returned (.bool true) ∧ Below w.heap.size w w' := by
  go_enter Yba.func3, Yba.ntmps3
  go_wp2
  go_ret
  exact ⟨rfl, Below.refl _ _⟩

theorem walkN (w : World) (ao : Option Addr) (n c at' cl ce sel : Nat) (ha : at' < 4294967296) (hcl : cl < 4294967296) (hce : ce < 4294967296) (hsel : sel < 256)
    (hE : n = 0 ∨ ∃ p q X Y Z, ao = some ⟨p, q, none⟩ ∧ Bx.En w p q n X Y Z) :
    Calls Yba.prog 3 #[.slice ao n c, .int .u32 (at' : Int), .int .u32 (cl : Int), .int .u32 (ce : Int), .int .u8 (sel : Int)] w fun e w' => e = .returned (.bool true) ∧ Below w.heap.size w w' := by
  by_cases hbig : 1024 < n
  · exact big w ao n c _ _ _ _ hbig
  have hn1 : n ≤ 1024 := by omega
  rcases Nat.eq_zero_or_pos n with rfl | hn0
  · by_cases hs : sel % 2 = 0
    · by_cases h0 : at' = 0
      · exact Bx.law0_even_at0 w ao c at' cl ce sel hsel hs h0
      · exact Bx.law0_even_add w ao c at' cl ce sel hsel hs ha hcl hce h0
    · by_cases h0 : at' = 0
      · exact Bx.law0_odd_at0 w ao c at' cl ce sel hsel hs h0
      · exact Bx.law0_odd_add w ao c at' cl ce sel hsel hs ha hcl hce h0
  · obtain ⟨p, q, X, Y, Z, rfl, hE2⟩ := hE.resolve_left (by omega)
    by_cases hs : sel % 2 = 0
    · by_cases h0 : at' = 0
      · exact Bx.law_even_at0 w p q n c at' cl ce sel X Y Z hn0 hn1 hE2 hsel hs h0
      · exact Bx.law_even_eq w p q n c at' cl ce sel X Y Z hn0 hn1 hE2 hsel hs h0
    · by_cases h0 : at' = 0
      · exact Bx.law_odd_at0 w p q n c at' cl ce sel X Y Z hn0 hn1 hE2 hsel hs h0
      · by_cases hY : Y (n - 1) = cl
        · by_cases hZ : Z (n - 1) = ce
          · exact Bx.law_odd_eq w p q n c at' cl ce sel X Y Z hn0 hn1 hE2 hsel hs h0 hY hZ
          · exact Bx.law_odd_neZ w p q n c at' cl ce sel X Y Z hn0 hn1 hE2 hsel hs hcl hce ha h0 hY hZ
        · exact Bx.law_odd_neY w p q n c at' cl ce sel X Y Z hn0 hn1 hE2 hsel hs hcl hce ha h0 hY

theorem walk (w : World) (ao : Option Addr) (n c : Nat) (a1 a2 a3 a4 : Int) (w1 : (Lit.int .u32 a1).wf = true) (w2 : (Lit.int .u32 a2).wf = true) (w3 : (Lit.int .u32 a3).wf = true) (w4 : (Lit.int .u8 a4).wf = true)
    (hE : n = 0 ∨ ∃ p q X Y Z, ao = some ⟨p, q, none⟩ ∧ Bx.En w p q n X Y Z) :
    Calls Yba.prog 3 #[.slice ao n c, .int .u32 a1, .int .u32 a2, .int .u32 a3, .int .u8 a4] w fun e w' => e = .returned (.bool true) ∧ Below w.heap.size w w' := by
  have b1 := bounds_u32 w1
  have b2 := bounds_u32 w2
  have b3 := bounds_u32 w3
  have b4 := bounds_u8 w4
  have h := walkN w ao n c a1.toNat a2.toNat a3.toNat a4.toNat (by omega) (by omega) (by omega) (by omega) hE
  rwa [Int.toNat_of_nonneg b1.1, Int.toNat_of_nonneg b2.1, Int.toNat_of_nonneg b3.1, Int.toNat_of_nonneg b4.1] at h

/-! ### THE ROW's STEP -/
set_option maxRecDepth 100000 in
theorem lifted (os : Os) (started : os.Started) (H : Type) (enc : TypeId × Value → H) :
    ReturnsInHanded {} Yba.checked os 3 .any (Rows.lawS0963CExactSpec.pre6 enc Yba.prog Yba.f3 Rows.lawS0963CExactRow.domain false) (Rows.lawS0963CExactSpec.post enc Yba.prog Yba.f3 false true false false) := by
  refine returnsInHanded_of_change (C := Yba.checked) own started (by kernel_rfl) Yba.func3
    (ChangeSpec.witness6 (enc := enc) (C := Yba.checked) false ⟨#[], #[.slice none 0 0, .int .u32 0, .int .u32 0, .int .u32 0, .int .u8 0], []⟩ 8 (by kernel_rfl) (by kernel_rfl) (by kernel_rfl) (by kernel_rfl)) ?_
  intro W base args ds gs before hval0 hW hcnd _
  have hval : ∀ (j : Nat) t v, Yba.f3.params[j]? = some t → args[j]? = some v → Value.okWide Yba.prog W .any base t v := hval0
  have hW' := hW
  obtain ⟨p, q, hA0, hV, rfl, hfz, hnd⟩ := hW
  have hA : DataW.TrodAll enc Yba.prog W 0 (fun _ => true) true Yba.f3.params.toList args.toList ds p := hA0
  rw [Yba.params3] at hA hval
  obtain ⟨v0, vs0, d0, ds0, p0, q0, hargs, rfl, rfl, h0, r0⟩ := trodAll_cons hA
  obtain ⟨v1, vs1, d1, ds1, p1, q1, rfl, rfl, rfl, h1, r1⟩ := trodAll_cons r0
  obtain ⟨v2, vs2, d2, ds2, p2, q2, rfl, rfl, rfl, h2, r2⟩ := trodAll_cons r1
  obtain ⟨v3, vs3, d3, ds3, p3, q3, rfl, rfl, rfl, h3, r3⟩ := trodAll_cons r2
  obtain ⟨v4, vs4, d4, ds4, p4, q4, rfl, rfl, rfl, h4, r4⟩ := trodAll_cons r3
  obtain ⟨rfl, rfl, rfl⟩ := trodAll_nil r4
  obtain rfl : args = #[v0, v1, v2, v3, v4] := by cases args; simp_all
  obtain ⟨rfl, rfl⟩ := trodVars_none hV
  obtain ⟨a0, len0, cap0, rfl⟩ := okWide_slice Yba.underlying22 (hval 0 22 v0 rfl rfl)
  have k0 := h0
  have lt0 : ∀ x ∈ p0, x.block < W.heap.size := by obtain ⟨m, hm⟩ := k0; exact DataW.trod_lt m _ _ _ hm
  have hE : len0 = 0 ∨ ∃ p q X Y Z, a0 = some ⟨p, q, none⟩ ∧ Bx.En W p q len0 X Y Z := by
    obtain ⟨fuel, hf⟩ := h0
    exact open_triples hf
  obtain ⟨a1, rfl, rfl, rfl, w1⟩ := open_int Yba.underlying23 (hval 1 23 v1 rfl rfl) h1
  obtain ⟨a2, rfl, rfl, rfl, w2⟩ := open_int Yba.underlying23 (hval 2 23 v2 rfl rfl) h2
  obtain ⟨a3, rfl, rfl, rfl, w3⟩ := open_int Yba.underlying23 (hval 3 23 v3 rfl rfl) h3
  obtain ⟨a4, rfl, rfl, rfl, w4⟩ := open_int Yba.underlying5 (hval 4 5 v4 rfl rfl) h4
  clear hA0 hval0
  refine (walk W a0 len0 cap0 a1 a2 a3 a4 w1 w2 w3 w4 hE).mono fun e W' ⟨he, bel⟩ => ?_
  subst he
  exact ⟨_, rfl, _, _, _, [], _, [], hW', trodAll_mk1 (shut_bool Yba.underlying4 _), (trodAll_cons_mk (Below.trod laidOut (by kernel_rfl) (of_decide_eq_true (by kernel_rfl)) k0 bel lt0) (trodAll_cons_mk (shut_int Yba.underlying23 w1) (trodAll_cons_mk (shut_int Yba.underlying23 w2) (trodAll_cons_mk (shut_int Yba.underlying23 w3) (trodAll_cons_mk (shut_int Yba.underlying5 w4) trodAll_mk0))))), rfl, bel.frame _, fun h => by cases h⟩

theorem over : Rows.lawS0963CExactRow.holds Yba.pinned (OpenSpec.ofChange Rows.lawS0963CExactSpec) :=
  OpenClaim.holds_of_wide 3 Yba.f3 rfl rfl rfl rfl rfl rfl rfl ⟨rfl, rfl, rfl, rfl, rfl⟩ rfl rfl rfl rfl rfl (by kernel_rfl) Yba.func3 (by kernel_rfl)
    (of_decide_eq_true (by kernel_rfl)) (by unfold Func.isWrapper; first | (rw [if_pos (by decide +kernel)]; kernel_rfl) | (rw [if_neg (by decide +kernel)]; exact ⟨rfl, rfl⟩))
    (fun os started H enc _ => lifted os started H enc)

/-- THE STATEMENT -/
theorem proved : Rows.LawS0963CExactSaid := over
end Go.Proofs.Ybulksxo.lawS0963CExact
