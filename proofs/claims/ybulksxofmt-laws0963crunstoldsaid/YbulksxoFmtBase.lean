import Derived.Test.YbulksxoFmtRows
import Derived.Shelf.Bin.BEAppendUint32
import Derived.Lib.EndianMore
import Derived.WalkKit
import Derived.WalkSpells
import Derived.WalkLawsBesides
import Derived.Handy
import Derived.BigQuiet
import Derived.Deep.RegionWith
import Derived.Deep.RegionHeld3
import Derived.Deep.Cut
namespace Go.Proofs.YbulksxoFmt.Bx
open Go Go.RowKit

theorem grown_trans {w w1 w2 : World} {r : Option Nat} (h : w.grownBy w1 r) (k : w1.grownBy w2 r) : w.grownBy w2 r :=
  ⟨k.os.trans h.os, k.tape.trans h.tape, k.output.trans h.output, Nat.le_trans h.size k.size, fun b hb hne => (k.block b (Nat.lt_of_lt_of_le hb h.size) hne).trans (h.block b hb hne)⟩
theorem grown_some {w w1 : World} (h : w.grownBy w1 none) (r : Option Nat) : w.grownBy w1 r :=
  ⟨h.os, h.tape, h.output, h.size, fun b hb _ => h.block b hb (by simp)⟩
theorem grown_refl (w : World) (r : Option Nat) : w.grownBy w r := ⟨rfl, rfl, rfl, Nat.le_refl _, fun _ _ _ => rfl⟩
theorem grown_alloc {w w1 : World} {r : Option Nat} (h : w.grownBy w1 r) (o : Obj) : w.grownBy (w1.alloc o) r := grown_trans h (World.grownBy_alloc _ _ _)
theorem grown_drew {w w1 : World} {r : Option Nat} (h : w.grownBy w1 r) : w.grownBy w1.drew r := ⟨h.os, h.tape, h.output, h.size, h.block⟩
theorem grown_drewN {w w1 : World} {r : Option Nat} (h : w.grownBy w1 r) (n : Nat) : w.grownBy (w1.drewN n) r := ⟨h.os, h.tape, h.output, h.size, h.block⟩
theorem grown_set {w w1 : World} {r : Option Nat} (h : w.grownBy w1 r) (a : Addr) (v : Value) (ha : w.heap.size ≤ a.block ∨ r = some a.block) : w.grownBy (w1.setCell a v) r := by
  refine ⟨h.os, h.tape, h.output, by rw [World.size_setCell]; exact h.size, fun b hb hne => ?_⟩
  rw [Below.heap_setCell _ _ _ _ (by
    rcases ha with ha | ha
    · omega
    · intro e; apply hne; rw [ha, e])]
  exact h.block b hb hne
/-- From 'grown beside a row that the call has laid itself'. -/
theorem grown_new {w w1 w2 : World} {r r' : Option Nat} (h : w.grownBy w1 r) (k : w1.grownBy w2 r') (hr : ∀ b, r' = some b → w.heap.size ≤ b ∨ r = some b) : w.grownBy w2 r :=
  ⟨k.os.trans h.os, k.tape.trans h.tape, k.output.trans h.output, Nat.le_trans h.size k.size, fun b hb hne => (k.block b (Nat.lt_of_lt_of_le hb h.size) (fun e => by
    rcases hr b e.symm with h1 | h1
    · omega
    · exact hne h1.symm)).trans (h.block b hb hne)⟩
theorem grown_below {B : Nat} {w w1 : World} (h : w.grownBy w1 none) (hB : B ≤ w.heap.size) : Below B w w1 := ⟨h.os, h.tape, h.output, h.size, fun b hb => h.block b (by omega) (by simp)⟩

/-- The four bytes of a number, as cells. -/
def be (v : Nat) : List Value := Go.Lib.byteCells (Go.Lib.beBytes 4 v)
theorem be_eq (v : Nat) (hv : v < 4294967296) : be v = [Value.int .u8 ((v : Int) / 16777216), Value.int .u8 ((v : Int) / 65536 % 256), Value.int .u8 ((v : Int) / 256 % 256), Value.int .u8 ((v : Int) % 256)] := by
  have e0 : ((v % 256 : Nat) : Int) = (v : Int) % 256 := by omega
  have e1 : ((v / 256 % 256 : Nat) : Int) = (v : Int) / 256 % 256 := by omega
  have e2 : ((v / 256 / 256 % 256 : Nat) : Int) = (v : Int) / 65536 % 256 := by omega
  have e3 : ((v / 256 / 256 / 256 % 256 : Nat) : Int) = (v : Int) / 16777216 := by omega
  simp only [be, Go.Lib.byteCells, Go.Lib.beBytes, Go.Lib.leBytes, List.reverse_cons, List.reverse_nil, List.nil_append, List.cons_append, List.map, Go.Lib.toUInt8_mod, e0, e1, e2, e3]
theorem be_len (v : Nat) : (be v).length = 4 := by simp [be, Go.Lib.byteCells, Go.Lib.beBytes_length]
/-- A row of numbers, as cells. -/
def bes (vs : List Nat) : List Value := vs.flatMap be
theorem bes_len (vs : List Nat) : (bes vs).length = 4 * vs.length := by
  induction vs with
  | nil => rfl
  | cons v vs ih => simp only [bes, List.flatMap_cons, List.length_append, be_len, List.length_cons] at ih ⊢; omega
theorem bes_append (vs us : List Nat) : bes (vs ++ us) = bes vs ++ bes us := by simp [bes]
theorem bes_one (v : Nat) : bes [v] = be v := by simp [bes]
theorem bes_get : ∀ (vs : List Nat) (k j : Nat), k < vs.length → j < 4 → (bes vs)[4 * k + j]? = (be (vs.getD k 0))[j]?
  | [], k, j, hk, _ => by simp at hk
  | v :: vs, 0, j, _, hj => by
    simp only [bes, List.flatMap_cons]
    rw [List.getElem?_append_left (by rw [be_len]; omega)]
    simp
  | v :: vs, k + 1, j, hk, hj => by
    have ih := bes_get vs k j (by simpa using hk) hj
    simp only [bes, List.flatMap_cons] at ih ⊢
    rw [List.getElem?_append_right (by rw [be_len]; omega), be_len, show 4 * (k + 1) + j - 4 = 4 * k + j by omega, ih]
    simp

theorem info5 : (Ybaf.prog.info? 5).map (fun i => (i.zero, i.size, i.bytes)) = some (some (.int .u8 0), 1, 1) := by kernel_rfl

/-- append: where the row lies behind it. -/
theorem wpList_app {P : Program} (w : World) {ops : Array Oper} {rest : List Oper} {o : Oper} {a : Act} {Q : Exit → Act → World → Prop} (hgd : o.guard = none) (s x : Operand) (t : TypeId)
    (ho : o.op = .call { callee := .builtin .append, args := #[s, x], argTypes := #[t, t] })
    (base : Nat) (i : TypeInfo) (z : Value) (ht : P.underlying t = some (.slice 5)) (hi : P.info? 5 = some i) (hz : i.zero = some z)
    (hsize : i.size = 1) (hby : i.bytes = 1) (hzs : z.cells.size = 1)
    (v : Value) (n : Nat) (xs : List Value) (hs : a.eval s = v) (hown : w.ownsRow base 5 1 v n xs)
    (ad : Addr) (m c : Nat) (news : List Value) (hx : a.eval x = .slice (some ad) m c) (hl : news.length = m) (hnews : ∀ j u, news[j]? = some u → w.cell? (ad.add j) = some u) (h1 : ∀ u ∈ news, u.oneCell' = true)
    (hm : 0 < m) (hb : n + m ≤ 1000000000) (hbase : base ≤ w.heap.size)
    (h : ∀ v' w', w'.ownsRow base 5 1 v' (n + m) (xs ++ news) → w.grownBy w' v.ownBlock → (∀ j, v'.ownBlock = some j → v.ownBlock = some j ∨ w.heap.size ≤ j) → wpList P ops Q rest (a.put o.dst v') w') : wpList P ops Q (o :: rest) a w := by
  obtain ⟨v', w', hr, h2, h3, h4⟩ := run_append_own (P := P) w base t o.type 5 i z 1 1 ht hi hz hsize hby hzs (by decide) v n xs hown ad m c news (by omega) hnews h1 (by unfold maxLen; omega) (by omega) hbase
  have hnew : ∀ j, v'.ownBlock = some j → v.ownBlock = some j ∨ w.heap.size ≤ j := by
    rcases hown.2 with ⟨rfl, rfl⟩ | ⟨g, cap, cur, rfl, hbg, hg, hnc, hcm, hcs, htake⟩
    · have hr2 := run_append_nil (P := P) w t o.type 5 i z ht hi hz ad m c news (by rw [hsize]; omega) hnews hm (by omega) (by rw [hby]; omega)
      rw [hr] at hr2
      cases hr2
      intro j hj
      simp [Value.ownBlock] at hj
      omega
    · by_cases hroom : n + m ≤ cap
      · have hr2 := run_append_room (P := P) w t o.type 5 i ht hi g n cap cur hg ad m c news (by rw [hsize]; omega) hnews h1 hroom (by rw [hsize]; omega)
        rw [hr] at hr2
        cases hr2
        intro j hj
        simp [Value.ownBlock] at hj ⊢
        omega
      · have holds : ∀ j u, xs[j]? = some u → w.cell? ((⟨g, 0, none⟩ : Addr).add j) = some u := hown.cells (g := g) rfl
        have hr2 := run_append_grow (P := P) w t o.type 5 i z ht hi hz ⟨g, 0, none⟩ n cap xs (by rw [hsize]; exact hown.1) holds ad m c news (by rw [hsize]; omega) hnews (by omega) (by omega) (growslice_fits (by omega) (by rw [hby]; omega))
        rw [hr] at hr2
        cases hr2
        intro j hj
        simp [Value.ownBlock] at hj
        omega
  refine wpList_plain hgd fun K hK' => ?_
  unfold Oper.wp execOp
  simp only [ho, resolve, invoke, builtin, Sem.run_bind, Sem.run_pure, Result.andThen_ok, List.map_toArray, List.map_cons, List.map_nil, hs, hx, hr]
  exact hK' _ _ (h v' w' h2 h3 hnew)

set_option maxHeartbeats 8000000 in
set_option maxRecDepth 100000 in
/-- binary.BigEndian.AppendUint32 -/
theorem app_any (B n v : Nat) (hv : v < 4294967296) (sv : Value) (xs : List Value) (w : World) (hown : w.ownsRow B 5 1 sv n xs) (hBw : B ≤ w.heap.size) (hlim : n + 4 ≤ 1000000000) :
    Calls Ybaf.prog 16 #[.agg #[], sv, .int .u32 v] w fun e w' => ∃ v', e = .returned v' ∧ w'.ownsRow B 5 1 v' (n + 4) (xs ++ be v) ∧ w.grownBy w' sv.ownBlock ∧ ∀ j, v'.ownBlock = some j → sv.ownBlock = some j ∨ w.heap.size ≤ j := by
  obtain ⟨i0, hi, hz0, hz1, hz2⟩ := info_parts info5
  rw [be_eq v hv]
  go_enter Ybaf.func16, Ybaf.ntmps16
  go_wp2_with (at_builtin; refine wpList_app _ rfl _ _ 25 rfl B i0 (.int .u8 0) Ybaf.underlying25 hi hz0 hz1 hz2 rfl _ _ _ rfl ((hown.alloc _).alloc _) _ 4 4 [Value.int .u8 ((v : Int) / 16777216), Value.int .u8 ((v : Int) / 65536 % 256), Value.int .u8 ((v : Int) / 256 % 256), Value.int .u8 ((v : Int) % 256)] rfl rfl ?c1 ?c2 ?c3 ?c4 ?c5 ?_)
  case c1 =>
    intro j u hj
    match j, hj with
    | 0, hj => simp at hj; subst hj; simp [Addr.add]
    | 1, hj => simp at hj; subst hj; simp [Addr.add]
    | 2, hj => simp at hj; subst hj; simp [Addr.add]
    | 3, hj => simp at hj; subst hj; simp [Addr.add]
  case c2 => intro u hu; simp at hu; rcases hu with rfl | rfl | rfl | rfl <;> rfl
  case c3 => decide
  case c4 => omega
  case c5 => simp; omega
  intro v' w2 hown' hgrow hnew
  go_wp2
  go_ret
  refine ⟨v', rfl, hown', grown_trans (grown_alloc (grown_alloc (grown_refl _ _) _) _) hgrow, fun j hj => ?_⟩
  rcases hnew j hj with h1 | h1
  · exact Or.inl h1
  · right; first | omega | (simp at h1; omega)

set_option maxHeartbeats 8000000 in
set_option maxRecDepth 100000 in
/-- binary.BigEndian.Uint32 -/
theorem u32_any (w : World) (g o n c v : Nat) (hv : v < 4294967296) (hn : 4 ≤ n) (hc : ∀ j, j < 4 → w.cell? ⟨g, o + j, none⟩ = (be v)[j]?) :
    Calls Ybaf.prog 12 #[.agg #[], .slice (some ⟨g, o, none⟩) n c] w fun e w' => e = .returned (.int .u32 v) ∧ w.grownBy w' none := by
  rw [be_eq v hv] at hc
  have c0 := cell?_alloc_old (.cells #[] 49) (hc 0 (by decide))
  have c1 := cell?_alloc_old (.cells #[] 49) (hc 1 (by decide))
  have c2 := cell?_alloc_old (.cells #[] 49) (hc 2 (by decide))
  have c3 := cell?_alloc_old (.cells #[] 49) (hc 3 (by decide))
  simp only [Nat.add_zero] at c0
  have b0 : 0 ≤ (v : Int) / 16777216 ∧ (v : Int) / 16777216 < 256 := by omega
  have b1 : 0 ≤ (v : Int) / 65536 % 256 ∧ (v : Int) / 65536 % 256 < 256 := by omega
  have b2 : 0 ≤ (v : Int) / 256 % 256 ∧ (v : Int) / 256 % 256 < 256 := by omega
  have b3 : 0 ≤ (v : Int) % 256 ∧ (v : Int) % 256 < 256 := by omega
  have hsum : (v : Int) = (v : Int) % 256 + (v : Int) / 256 % 256 * 256 + (v : Int) / 65536 % 256 * 65536 + (v : Int) / 16777216 * 16777216 := by omega
  have HS : Hid _ := hsum
  clear hc hsum
  generalize (v : Int) / 16777216 = y0 at *
  generalize (v : Int) / 65536 % 256 = y1 at *
  generalize (v : Int) / 256 % 256 = y2 at *
  generalize (v : Int) % 256 = y3 at *
  go_enter Ybaf.func12, Ybaf.ntmps12
  go_wp2
  go_quiet (fail)
  go_wp2
  go_ret
  refine ⟨?_, grown_drewN (grown_alloc (grown_refl _ _) _) _⟩
  simp (disch := omega) only [u32_or8, u32_or16, u32_or24]
  rw [HS.out]
  rfl

end Go.Proofs.YbulksxoFmt.Bx
