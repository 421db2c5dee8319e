import Derived.Test.YbulkstgRows
import Derived.Test.YbulkstgBits
import Derived.WalkKit
import Derived.WalkSpells
import Derived.WalkLawsBesides
import Derived.Handy
import Derived.BigQuiet
namespace Go.Proofs.Ybulkstg.Buf
open Go Go.RowKit

theorem info5 : (Yba.prog.info? 5).map (fun i => (i.zero, i.size, i.bytes)) = some (some (.int .u8 0), 1, 1) := by kernel_rfl

/-- The Writer at block B: its buffer owns the octets l, its position is p; below B all is as in W. -/
structure Wr (W : World) (B : Nat) (v : Value) (w : World) (l : List Int) (p : Int) : Prop where
  hB : W.heap.size = B
  size : B < w.heap.size
  buf : w.cell? ⟨B, 0, none⟩ = some v
  pos : w.cell? ⟨B, 1, none⟩ = some (.int .i64 p)
  f0 : w.frozen? ⟨B, 0, none⟩ = false
  f1 : w.frozen? ⟨B, 1, none⟩ = false
  own : w.ownsRow (B + 1) 5 1 v l.length (l.map (Value.int .u8))
  below : Below B W w

theorem Wr.setPos {W : World} {B : Nat} {v : Value} {w : World} {l : List Int} {p : Int} (h : Wr W B v w l p) (q : Int) : Wr W B v (w.setCell ⟨B, 1, none⟩ (.int .i64 q)) l q :=
  ⟨h.hB, by rw [World.size_setCell]; exact h.size, (World.cell?_setCell_other _ _ _ _ (by simp)).trans h.buf, World.cell?_setCell_same _ _ _ h.pos, by rw [World.frozen?_setCell]; exact h.f0, by rw [World.frozen?_setCell]; exact h.f1,
   ownsRow_setCell_below h.own (Nat.lt_succ_self _) _, h.below.setCell (Nat.le_refl _) _⟩

/-- Behind an append onto the buffer: the facts that the store wants. -/
theorem Wr.grown {W : World} {B : Nat} {v v' : Value} {w w1 w2 : World} {l l' : List Int} {p : Int} (h : Wr W B v w l p) (h1 : Below w.heap.size w w1) (hg : w1.grownBy w2 v.ownBlock)
    (hown : w2.ownsRow (B + 1) 5 1 v' l'.length (l'.map (Value.int .u8))) :
    w2.cell? ⟨B, 0, none⟩ = some v ∧ w2.frozen? ⟨B, 0, none⟩ = false ∧ Wr W B v' (w2.setCell ⟨B, 0, none⟩ v') l' p := by
  have hs := h.size
  have hs1 := h1.size
  have hne : ∀ k, v.ownBlock = some k → B + 1 ≤ k := fun k hk => (h.own.lt k hk).1
  have hb : w2.heap[B]? = w.heap[B]? := (hg.block B (by omega) (fun e => by have := hne B e.symm; omega)).trans (h1.block B hs)
  have c0 : w2.cell? ⟨B, 0, none⟩ = some v := (World.cell?_of_block hb).trans h.buf
  have c1 : w2.cell? ⟨B, 1, none⟩ = some (.int .i64 p) := (World.cell?_of_block hb).trans h.pos
  have f0 : w2.frozen? ⟨B, 0, none⟩ = false := (World.frozen?_of_block hb).trans h.f0
  have f1 : w2.frozen? ⟨B, 1, none⟩ = false := (World.frozen?_of_block hb).trans h.f1
  refine ⟨c0, f0, ⟨h.hB, ?_, World.cell?_setCell_same _ _ _ c0, (World.cell?_setCell_other _ _ _ _ (by simp)).trans c1, by rw [World.frozen?_setCell]; exact f0, by rw [World.frozen?_setCell]; exact f1, ownsRow_setCell_below hown (Nat.lt_succ_self _) _, ?_⟩⟩
  · rw [World.size_setCell]; have := hg.size; omega
  · refine Below.setCell (p := ⟨B, 0, none⟩) ?_ (Nat.le_refl _) _
    exact (h.below.trans (h1.mono (by omega))).grown hg (by omega) (fun k hk => by have := hne k hk; omega)

theorem own_shape {w : World} {base e size : Nat} {v : Value} {n : Nat} {xs : List Value} (h : w.ownsRow base e size v n xs) : ∃ ao c, v = .slice ao n c := by
  rcases h.2 with ⟨rfl, rfl⟩ | ⟨g, cap, cur, rfl, _⟩
  · exact ⟨_, _, rfl⟩
  · exact ⟨_, _, rfl⟩

set_option maxHeartbeats 1000000 in
theorem align_any (W : World) (B : Nat) (v : Value) (w : World) (l : List Int) (p : Int) (h : Wr W B v w l p) (h0 : 0 ≤ p) (h1 : p ≤ 1000000000000) :
    Calls Yba.prog 22 #[.pointer (some ⟨B, 0, none⟩)] w fun e w' => e = .returned (.tuple #[]) ∧ Wr W B v w' l (p + 7 - (p + 7) % 8) := by
  have hp := h.pos
  have hf := h.f1
  have hb := Bt.i64_andNot7 (p + 7) (by omega) (by omega)
  go_enter Yba.func22, Yba.ntmps22
  go_wp2
  go_end0
  exact ⟨rfl, h.setPos _⟩

set_option maxHeartbeats 1000000 in
theorem num1_any (W : World) (B : Nat) (v : Value) (w : World) (l : List Int) (p : Int) (x : Int) (h : Wr W B v w l p) (h0 : 0 ≤ p) (h1 : p ≤ 1000000000000) (hl : l.length ≤ 1000000000) (hx0 : 0 ≤ x) (hx1 : x < 256) :
    Calls Yba.prog 21 #[.pointer (some ⟨B, 0, none⟩), .int .u64 x, .int .i64 1] w fun e w' => e = .returned (.tuple #[]) ∧ ∃ v', Wr W B v' w' (l ++ [x]) (p + 7 - (p + 7) % 8 + 8) := by
  obtain ⟨i0, hi, hz0, hz1, hz2⟩ := info_parts info5
  have hxx : IntKind.u8.wrap x = x := by rw [IntKind.wrap_u8']; omega
  go_enter Yba.func21, Yba.ntmps21
  go_wp2_with fail
  refine (align_any W B v _ l p h h0 h1).mono ?_
  rintro e w1 ⟨rfl, hw1⟩
  have c0 := hw1.buf
  have c1 := hw1.pos
  have f0 := hw1.f0
  have f1 := hw1.f1
  go_wp2_with (at_builtin; refine wpList_append_own _ rfl (.tmp 14) (.tmp 17) 23 rfl (B + 1) 5 i0 (.int .u8 0) 1 1 Yba.underlying23 hi hz0 hz1 hz2 rfl (by decide) _ _ _ rfl (hw1.own.alloc _) ⟨w1.heap.size, 0, none⟩ 1 1 [.int .u8 x] rfl rfl ?c1 ?c2 ?c3 ?c4 ?c5 ?_)
  case c1 => exact cell_one_new _ _ _
  case c2 => intro u hu; simp at hu; subst hu; rfl
  case c3 => unfold maxLen; omega
  case c4 => omega
  case c5 => have := hw1.size; simp; omega
  intro v' w2 hown hgrow _
  obtain ⟨q0, qf, hw2⟩ := hw1.grown (Below.alloc (Below.refl _ _) (Nat.le_refl _) _) hgrow (l' := l ++ [x]) (by simpa using hown)
  obtain ⟨ao, c, rfl⟩ := own_shape hown
  have q1 := hw2.pos
  have qf1 := hw2.f1
  clear c0 c1 f0 f1 hown hgrow
  go_wp2
  go_end0
  exact ⟨rfl, _, hw2.setPos _⟩

set_option maxHeartbeats 1000000 in
theorem num2_any (W : World) (B : Nat) (v : Value) (w : World) (l : List Int) (p : Int) (x : Int) (h : Wr W B v w l p) (h0 : 0 ≤ p) (h1 : p ≤ 1000000000000) (hl : l.length ≤ 1000000000) (hx0 : 0 ≤ x) (hx1 : x < 65536) :
    Calls Yba.prog 21 #[.pointer (some ⟨B, 0, none⟩), .int .u64 x, .int .i64 2] w fun e w' => e = .returned (.tuple #[]) ∧ ∃ v', Wr W B v' w' (l ++ [x / 256, x % 256]) (p + 7 - (p + 7) % 8 + 16) := by
  obtain ⟨i0, hi, hz0, hz1, hz2⟩ := info_parts info5
  have hx1 : IntKind.u8.wrap (x / 256) = x / 256 := by rw [IntKind.wrap_u8']; omega
  have hx2 : IntKind.u8.wrap x = x % 256 := by rw [IntKind.wrap_u8']
  go_enter Yba.func21, Yba.ntmps21
  go_wp2_with fail
  refine (align_any W B v _ l p h h0 h1).mono ?_
  rintro e w1 ⟨rfl, hw1⟩
  have c0 := hw1.buf
  have c1 := hw1.pos
  have f0 := hw1.f0
  have f1 := hw1.f1
  go_wp2_with (at_builtin; refine wpList_append_own _ rfl (.tmp 25) (.tmp 31) 23 rfl (B + 1) 5 i0 (.int .u8 0) 1 1 Yba.underlying23 hi hz0 hz1 hz2 rfl (by decide) _ _ _ rfl (hw1.own.alloc _) ⟨w1.heap.size, 0, none⟩ 2 2 [.int .u8 (x / 256), .int .u8 (x % 256)] rfl rfl ?c1 ?c2 ?c3 ?c4 ?c5 ?_)
  case c1 =>
    intro j u hj
    match j, hj with
    | 0, hj => simp at hj; subst hj; exact World.cell?_alloc_at _ _ _ _ rfl
    | 1, hj => simp at hj; subst hj; exact World.cell?_alloc_at _ _ _ _ rfl
  case c2 => intro u hu; simp at hu; rcases hu with rfl | rfl <;> rfl
  case c3 => unfold maxLen; omega
  case c4 => omega
  case c5 => have := hw1.size; simp; omega
  intro v' w2 hown hgrow _
  obtain ⟨q0, qf, hw2⟩ := hw1.grown (Below.alloc (Below.refl _ _) (Nat.le_refl _) _) hgrow (l' := l ++ [x / 256, x % 256]) (by simpa using hown)
  obtain ⟨ao, c, rfl⟩ := own_shape hown
  have q1 := hw2.pos
  have qf1 := hw2.f1
  clear c0 c1 f0 f1 hown hgrow
  go_wp2
  go_end0
  exact ⟨rfl, _, hw2.setPos _⟩

/-- The value v reads as the octets xs in W. -/
structure Sl (W : World) (ao : Option Addr) (c : Nat) (xs : List Int) : Prop where
  le : xs.length ≤ c
  max : c ≤ maxLen
  nil : ao = none → c = 0
  cells : ∀ a, ao = some a → ∀ j u, (xs.map (Value.int .u8))[j]? = some u → W.cell? (a.add j) = some u

theorem Sl.take {W : World} {ao : Option Addr} {c : Nat} {xs : List Int} (h : Sl W ao c xs) (n : Nat) : Sl W ao c (xs.take n) :=
  ⟨by have := h.le; rw [List.length_take]; omega, h.max, h.nil, fun a ha j u hj => h.cells a ha j u (by
    rw [List.map_take, List.getElem?_take] at hj
    split at hj
    · exact hj
    · cases hj)⟩

theorem Sl.drop {W : World} {ao : Option Addr} {c : Nat} {xs : List Int} (h : Sl W ao c xs) (n : Nat) (hn : n ≤ xs.length) :
    Sl W (if c = n then ao else ao.map (fun x => x.add n)) (c - n) (xs.drop n) := by
  refine ⟨by have := h.le; rw [List.length_drop]; omega, by have := h.max; omega, fun ha => ?_, fun a ha j u hj => ?_⟩
  · by_cases hc : c = n
    · omega
    · rw [if_neg hc] at ha
      have := h.nil (by simpa using ha)
      omega
  · have hle := h.le
    rw [List.map_drop, List.getElem?_drop] at hj
    by_cases hc : c = n
    · exfalso
      have : n + j < (xs.map (Value.int .u8)).length := by
        rcases Nat.lt_or_ge (n + j) (xs.map (Value.int .u8)).length with hh | hh
        · exact hh
        · rw [List.getElem?_eq_none hh] at hj; cases hj
      rw [List.length_map] at this
      omega
    · rw [if_neg hc] at ha
      cases ao with
      | none => simp at ha
      | some b =>
        simp at ha
        subst ha
        have := h.cells b rfl (n + j) u hj
        unfold Addr.add at *
        by_cases h1 : n = 0
        · subst h1; simpa using this
        · by_cases h2 : j = 0
          · subst h2; simpa [h1] using this
          · rw [if_neg (by omega)] at this; simp [h1, h2]; rw [← this]; congr 2; omega

theorem Sl.later {W w : World} {ao : Option Addr} {c : Nat} {xs : List Int} (h : Sl W ao c xs) (hb : Below W.heap.size W w) : Sl w ao c xs :=
  ⟨h.le, h.max, h.nil, fun a ha j u hj => cell_later hb (h.cells a ha j u hj)⟩

/-- append(v, x...) onto a row of the call's own, x whatever slice. -/
theorem wpList_append_sl {P : Program} (w : World) {ops : Array Oper} {rest : List Oper} {o : Oper} {a : Act} {Q : Exit → Act → World → Prop} (hgd : o.guard = none) (s x : Operand) (t : TypeId)
    (ho : o.op = .call { callee := .builtin .append, args := #[s, x], argTypes := #[t, t] })
    (base : Nat) (e : TypeId) (i : TypeInfo) (z : Value) (ht : P.underlying t = some (.slice e)) (hi : P.info? e = some i) (hz : i.zero = some z)
    (hsize : i.size = 1) (hby : i.bytes = 1) (hzs : z.cells.size = 1)
    (v : Value) (n : Nat) (xs : List Value) (hs : a.eval s = v) (hown : w.ownsRow base e 1 v n xs)
    (ao : Option Addr) (m c : Nat) (ys : List Int) (hx : a.eval x = .slice ao m c) (hl : ys.length = m) (hsl : Sl w ao c ys)
    (hb : n + m ≤ 140737488355328) (hbase : base ≤ w.heap.size)
    (h : ∀ v' w', w'.ownsRow base e 1 v' (n + m) (xs ++ ys.map (Value.int .u8)) → w.grownBy w' v.ownBlock → wpList P ops Q rest (a.put o.dst v') w') : wpList P ops Q (o :: rest) a w := by
  cases ao with
  | some ad =>
    exact wpList_append_own w hgd s x t ho base e i z 1 1 ht hi hz hsize hby hzs (by decide) v n xs hs hown ad m c (ys.map (Value.int .u8)) hx (by simp [hl]) (hsl.cells ad rfl) (ints_oneCell _ _) (by unfold maxLen; omega) (by omega) hbase (fun v' w' h1 h2 _ => h v' w' h1 h2)
  | none =>
    have hc := hsl.nil rfl
    have hle := hsl.le
    obtain rfl : c = 0 := hc
    obtain rfl : m = 0 := by omega
    have hys : ys = [] := List.eq_nil_of_length_eq_zero hl
    subst hys
    refine wpList_plain hgd fun K hK' => ?_
    have hrun := run_append_owned_none (P := P) w base t o.type e i 1 ht hi _ n xs hown
    unfold Oper.wp
    simp [execOp, ho, resolve, invoke, builtin, hs, hx, hrun, Result.andThen]
    exact hK' _ _ (by simpa using h v w (by simpa using hown) (World.grownBy.refl _ _))

set_option maxHeartbeats 1000000 in
theorem octets_any (W : World) (B : Nat) (v : Value) (w : World) (l : List Int) (p : Int) (ao : Option Addr) (c m : Nat) (xs : List Int) (h : Wr W B v w l p) (h0 : 0 ≤ p) (h1 : p ≤ 1000000000000) (hl : l.length ≤ 1000000000) (hm : xs.length = m) (hm1 : m ≤ 1000000000) (hx : Sl W ao c xs) :
    Calls Yba.prog 20 #[.pointer (some ⟨B, 0, none⟩), .slice ao m c] w fun e w' => e = .returned (.tuple #[]) ∧ ∃ v', Wr W B v' w' (l ++ xs) (p + 7 - (p + 7) % 8 + 8 * m) := by
  obtain ⟨i0, hi, hz0, hz1, hz2⟩ := info_parts info5
  go_enter Yba.func20, Yba.ntmps20
  go_wp2_with fail
  refine (align_any W B v _ l p h h0 h1).mono ?_
  rintro e w1 ⟨rfl, hw1⟩
  have c0 := hw1.buf
  have c1 := hw1.pos
  have f0 := hw1.f0
  have f1 := hw1.f1
  go_wp2_with (at_builtin; refine wpList_append_sl _ rfl (.tmp 10) (.tmp 11) 23 rfl (B + 1) 5 i0 (.int .u8 0) Yba.underlying23 hi hz0 hz1 hz2 rfl _ _ _ rfl hw1.own ao m c xs rfl hm (hx.later (by have := hw1.below; rw [← hw1.hB] at this; exact this)) (by omega) (by have := hw1.size; omega) ?_)
  intro v' w2 hown hgrow
  obtain ⟨q0, qf, hw2⟩ := hw1.grown (Below.refl _ _) hgrow (l' := l ++ xs) (by simpa [hm] using hown)
  obtain ⟨ao, c, rfl⟩ := own_shape hown
  have q1 := hw2.pos
  have qf1 := hw2.f1
  clear c0 c1 f0 f1 hown hgrow
  go_wp2
  go_end0
  exact ⟨rfl, _, hw2.setPos _⟩

end Go.Proofs.Ybulkstg.Buf
