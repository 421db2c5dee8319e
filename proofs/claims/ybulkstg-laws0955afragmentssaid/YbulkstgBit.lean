import Derived.Test.YbulkstgOpen
namespace Go.Proofs.Ybulkstg.Buf
open Go Go.RowKit

theorem Wr.stored {W : World} {B g n c : Nat} {w : World} {l : List Int} {p : Int} (h : Wr W B (.slice (some ⟨g, 0, none⟩) n c) w l p) (j : Nat) (x : Int) :
    Wr W B (.slice (some ⟨g, 0, none⟩) n c) (w.setCell ⟨g, j, none⟩ (.int .u8 x)) (l.set j x) p := by
  have hn : n = l.length := by
    rcases h.own.2 with ⟨h', _⟩ | ⟨_, _, _, h', _⟩ <;> simp at h' <;> exact h'.2.1
  subst hn
  have hlt := h.own.lt g rfl
  obtain ⟨o1, o2⟩ := h.own.stored j (.int .u8 x)
  have hs := h.size
  refine ⟨h.hB, by rw [World.size_setCell]; exact h.size, (World.cell?_setCell_other _ _ _ _ (by intro e; simp at e <;> omega)).trans h.buf, (World.cell?_setCell_other _ _ _ _ (by intro e; simp at e <;> omega)).trans h.pos, by rw [World.frozen?_setCell]; exact h.f0, by rw [World.frozen?_setCell]; exact h.f1, ?_, h.below.setCell (by show B ≤ g; omega) _⟩
  rw [List.length_set, List.map_set]
  exact o1

theorem Wr.drew {W : World} {B : Nat} {v : Value} {w : World} {l : List Int} {p : Int} (h : Wr W B v w l p) : Wr W B v w.drew l p :=
  ⟨h.hB, h.size, h.buf, h.pos, h.f0, h.f1, h.own.drew, h.below.drew⟩

/-- Bit r of an octet set. -/
def orb (x : Int) (r : Nat) : Int := bits .or .u8 x (2 ^ r % 256)

theorem last_cell {W : World} {B g c : Nat} {w : World} {l : List Int} {p : Int} (h : Wr W B (.slice (some ⟨g, 0, none⟩) l.length c) w l p) (hpos : 0 < l.length) :
    w.cell? ⟨g, l.length - 1, none⟩ = some (.int .u8 (l.getD (l.length - 1) 0)) := by
  rw [h.own.cellAt (l.length - 1) (by omega), List.getElem?_map, List.getD, List.getElem?_eq_getElem (by omega)]
  rfl

theorem room_eq (k : Nat) : bits .and .i64 (-(k : Int)) 7 = if k % 8 = 0 then 0 else ((7 - k % 8 : Nat) : Int) + 1 := by
  rw [Bt.i64_and7]
  split <;> omega

set_option maxHeartbeats 1000000 in
theorem bit_tr (W : World) (B : Nat) (v : Value) (w : World) (l : List Int) (k : Nat) (h : Wr W B v w l (k : Int)) (hk : k ≤ 1000) (hpos : 0 < l.length) (hl : l.length ≤ 200) (hr : k % 8 ≠ 0) :
    Calls Yba.prog 13 #[.pointer (some ⟨B, 0, none⟩), .bool true] w fun e w' => e = .returned (.tuple #[]) ∧ ∃ v', Wr W B v' w' (l.set (l.length - 1) (orb (l.getD (l.length - 1) 0) (7 - k % 8))) ((k : Int) + 1) := by
  obtain ⟨g, c, rfl⟩ : ∃ g c, v = .slice (some ⟨g, 0, none⟩) l.length c := by
    rcases h.own.2 with ⟨_, h'⟩ | ⟨g, c, _, h', _⟩
    · omega
    · exact ⟨g, c, h'⟩
  have hc0 := h.buf
  have hc1 := h.pos
  have hf0 := h.f0
  have hf1 := h.f1
  have hb := room_eq k
  rw [if_neg hr] at hb
  have hr6 : 7 - k % 8 ≤ 6 := by omega
  have hcl := last_cell h hpos
  have hfl := h.own.frozenAt (l.length - 1)
  have hlt := (h.own.lt g rfl).1
  have hW := (h.stored (l.length - 1) (orb (l.getD (l.length - 1) 0) (7 - k % 8))).drew
  unfold orb at *
  generalize l.getD (l.length - 1) 0 = x at *
  generalize 7 - k % 8 = r at *
  have q1 := hW.pos
  have qf := hW.f1
  go_enter Yba.func13, Yba.ntmps13
  go_wp2
  go_region
  go_wp2
  go_end0
  exact ⟨rfl, _, hW.setPos _⟩

set_option maxHeartbeats 1000000 in
theorem bit_fr (W : World) (B : Nat) (v : Value) (w : World) (l : List Int) (k : Nat) (h : Wr W B v w l (k : Int)) (hk : k ≤ 1000) (hr : k % 8 ≠ 0) :
    Calls Yba.prog 13 #[.pointer (some ⟨B, 0, none⟩), .bool false] w fun e w' => e = .returned (.tuple #[]) ∧ ∃ v', Wr W B v' w' l ((k : Int) + 1) := by
  have hc1 := h.pos
  have hf1 := h.f1
  have hb := room_eq k
  rw [if_neg hr] at hb
  have hr6 : 7 - k % 8 ≤ 6 := by omega
  generalize 7 - k % 8 = r at *
  go_enter Yba.func13, Yba.ntmps13
  go_wp2
  go_end0
  exact ⟨rfl, _, h.setPos _⟩

set_option maxHeartbeats 1000000 in
theorem bit_f0 (W : World) (B : Nat) (v : Value) (w : World) (l : List Int) (k : Nat) (h : Wr W B v w l (k : Int)) (hk : k ≤ 1000) (hl : l.length ≤ 200) (hr : k % 8 = 0) :
    Calls Yba.prog 13 #[.pointer (some ⟨B, 0, none⟩), .bool false] w fun e w' => e = .returned (.tuple #[]) ∧ ∃ v', Wr W B v' w' (l ++ [0]) ((k : Int) + 1) := by
  obtain ⟨i0, hi, hz0, hz1, hz2⟩ := info_parts info5
  have hc0 := h.buf
  have hc1 := h.pos
  have hf0 := h.f0
  have hf1 := h.f1
  have hb := room_eq k
  rw [if_pos hr] at hb
  clear hr
  go_enter Yba.func13, Yba.ntmps13
  go_wp2_with (at_builtin; refine wpList_append_own _ rfl (.tmp 17) (.tmp 18) 23 rfl (B + 1) 5 i0 (.int .u8 0) 1 1 Yba.underlying23 hi hz0 hz1 hz2 rfl (by decide) _ _ _ rfl (h.own.alloc _) ⟨w.heap.size, 0, none⟩ 1 1 [.int .u8 0] rfl rfl ?c1 ?c2 ?c3 ?c4 ?c5 ?_)
  case c1 => exact cell_one_new _ _ _
  case c2 => intro u hu; simp at hu; subst hu; rfl
  case c3 => unfold maxLen; omega
  case c4 => omega
  case c5 => have := h.size; simp; omega
  intro v' w2 hown hgrow _
  obtain ⟨q0, qf, hw2⟩ := h.grown (Below.alloc (Below.refl _ _) (Nat.le_refl _) _) hgrow (l' := l ++ [0]) (by simpa using hown)
  obtain ⟨ao, c, rfl⟩ := own_shape hown
  have q1 := hw2.pos
  have qf1 := hw2.f1
  clear hc0 hc1 hf0 hf1 hown hgrow
  go_wp2
  go_end0
  exact ⟨rfl, _, hw2.setPos _⟩

set_option maxHeartbeats 1000000 in
theorem bit_t0 (W : World) (B : Nat) (v : Value) (w : World) (l : List Int) (k : Nat) (h : Wr W B v w l (k : Int)) (hk : k ≤ 1000) (hl : l.length ≤ 200) (hr : k % 8 = 0) :
    Calls Yba.prog 13 #[.pointer (some ⟨B, 0, none⟩), .bool true] w fun e w' => e = .returned (.tuple #[]) ∧ ∃ v', Wr W B v' w' ((l ++ [0]).set l.length (orb 0 7)) ((k : Int) + 1) := by
  rw [show orb 0 7 = bits .or .u8 0 128 from rfl]
  obtain ⟨i0, hi, hz0, hz1, hz2⟩ := info_parts info5
  have hc0 := h.buf
  have hc1 := h.pos
  have hf0 := h.f0
  have hf1 := h.f1
  have hb := room_eq k
  rw [if_pos hr] at hb
  clear hr
  go_enter Yba.func13, Yba.ntmps13
  go_wp2_with (at_builtin; refine wpList_append_own _ rfl (.tmp 17) (.tmp 18) 23 rfl (B + 1) 5 i0 (.int .u8 0) 1 1 Yba.underlying23 hi hz0 hz1 hz2 rfl (by decide) _ _ _ rfl (h.own.alloc _) ⟨w.heap.size, 0, none⟩ 1 1 [.int .u8 0] rfl rfl ?c1 ?c2 ?c3 ?c4 ?c5 ?_)
  case c1 => exact cell_one_new _ _ _
  case c2 => intro u hu; simp at hu; subst hu; rfl
  case c3 => unfold maxLen; omega
  case c4 => omega
  case c5 => have := h.size; simp; omega
  intro v' w2 hown hgrow _
  obtain ⟨q0, qf, hw2⟩ := h.grown (Below.alloc (Below.refl _ _) (Nat.le_refl _) _) hgrow (l' := l ++ [0]) (by simpa using hown)
  obtain ⟨g, c, hv⟩ : ∃ g c, v' = .slice (some ⟨g, 0, none⟩) (l.length + 1) c := by
    rcases hown.2 with ⟨_, h'⟩ | ⟨g, c, _, h', _⟩
    · omega
    · exact ⟨g, c, h'⟩
  subst hv
  have hl1 : (l ++ [(0 : Int)]).length = l.length + 1 := by simp
  rw [← hl1] at hw2
  have hcl := last_cell hw2 (by omega)
  have hfl := hw2.own.frozenAt ((l ++ [(0 : Int)]).length - 1)
  rw [hl1, show l.length + 1 - 1 = l.length from rfl, show (l ++ [(0 : Int)]).getD l.length 0 = 0 by simp] at hcl
  rw [hl1, show l.length + 1 - 1 = l.length from rfl] at hfl
  rw [hl1] at hw2
  have hlt := (hown.lt g rfl).1
  have hW := (hw2.stored l.length (bits .or .u8 0 128)).drew
  have g0 := hw2.buf
  have g1 := hW.pos
  have gf1 := hW.f1
  clear hc0 hc1 hf0 hf1 hown hgrow hl1
  go_wp2
  go_region
  go_wp2
  go_end0
  exact ⟨rfl, _, hW.setPos _⟩

/-- One bit more. -/
def stepW (l : List Int) (k : Nat) (b : Bool) : List Int :=
  let l1 := if k % 8 = 0 then l ++ [0] else l
  if b = true then l1.set (l1.length - 1) (orb (l1.getD (l1.length - 1) 0) (7 - k % 8)) else l1

theorem bit_any (W : World) (B : Nat) (v : Value) (w : World) (l : List Int) (k : Nat) (b : Bool) (h : Wr W B v w l (k : Int)) (hk : k ≤ 1000) (hl : l.length = (k + 7) / 8) :
    Calls Yba.prog 13 #[.pointer (some ⟨B, 0, none⟩), .bool b] w fun e w' => e = .returned (.tuple #[]) ∧ ∃ v', Wr W B v' w' (stepW l k b) ((k : Int) + 1) := by
  by_cases hr : k % 8 = 0
  · cases b
    · simpa [stepW, hr] using bit_f0 W B v w l k h hk (by omega) hr
    · simpa [stepW, hr] using bit_t0 W B v w l k h hk (by omega) hr
  · cases b
    · simpa [stepW, hr] using bit_fr W B v w l k h hk hr
    · simpa [stepW, hr] using bit_tr W B v w l k h hk (by omega) (by omega) hr

theorem pos_any (W : World) (B : Nat) (v : Value) (w : World) (l : List Int) (p : Int) (h : Wr W B v w l p) :
    Calls Yba.prog 15 #[.pointer (some ⟨B, 0, none⟩)] w fun e w' => e = .returned (.int .i64 p) ∧ w' = w := by
  have hc1 := h.pos
  go_enter Yba.func15, Yba.ntmps15
  go_wp2
  go_ret
  exact ⟨rfl, rfl⟩
end Go.Proofs.Ybulkstg.Buf
