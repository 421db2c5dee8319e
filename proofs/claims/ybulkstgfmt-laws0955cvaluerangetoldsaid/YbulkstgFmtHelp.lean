import Derived.Test.YbulkstgFmtVal
namespace Go.Proofs.YbulkstgFmt.Tk
open Go Go.RowKit

def mkTok (x : Int) (i : Int) (f : ByteArray) : Tok :=
  if x % 6 = 0 then ⟨3, ⟨#[55]⟩, f, i + 1, 1⟩ else if x % 6 = 1 then ⟨1, ⟨#[120]⟩, f, i + 1, 1⟩ else if x % 6 = 2 then ⟨7, ⟨#[60]⟩, f, i + 1, 1⟩
  else if x % 6 = 3 then ⟨6, ⟨#[46, 46]⟩, f, i + 1, 1⟩ else if x % 6 = 4 then ⟨7, ⟨#[45]⟩, f, i + 1, 1⟩ else ⟨7, ⟨#[44]⟩, f, i + 1, 1⟩

set_option maxHeartbeats 2000000 in
theorem ctok_any (w : World) (x i : Int) (f : ByteArray) (hx0 : 0 ≤ x) (hx1 : x < 256) (hi0 : 0 ≤ i) (hi1 : i ≤ 5000) :
    Calls Ybaf.prog 6 #[.int .u8 x, .int .i64 i, .string f] w fun e w' => e = .returned (.agg #[.int .i64 (mkTok x i f).kind, .string (mkTok x i f).text, .string (mkTok x i f).file, .int .i64 (mkTok x i f).line, .int .i64 (mkTok x i f).col]) ∧ w.grownBy w' none := by
  have hr : x % 6 = 0 ∨ x % 6 = 1 ∨ x % 6 = 2 ∨ x % 6 = 3 ∨ x % 6 = 4 ∨ x % 6 = 5 := by omega
  rcases hr with hr | hr | hr | hr | hr | hr
  all_goals
    simp only [mkTok, hr, if_true, if_false, Int.reduceEq]
    go_enter Ybaf.func6, Ybaf.ntmps6
    go_wp2
    go_returns
    exact ⟨rfl, by repeat (first | (with_reducible exact grown_refl _ _) | (with_reducible refine grown_alloc ?_ _))⟩

/-- Where a value that begins at i ends. -/
def vend (n : Nat) (T : Nat → Tok) (i : Nat) : Option Nat :=
  if i < n then
    if (T i).kind = 7 ∧ (T i).text.toList = [45] then (if i + 1 < n ∧ (T (i + 1)).kind = 3 then some (i + 2) else none)
    else if (T i).kind = 3 ∨ (T i).kind = 1 then some (i + 1) else none
  else none

/-- Tokens in memory. -/
structure Tx (w : World) (g n : Nat) (T : Nat → Tok) : Prop where
  hg : g < w.heap.size
  t0 : ∀ j, j < n → w.cell? ⟨g, j * 5, none⟩ = some (.int .i64 (T j).kind)
  t1 : ∀ j, j < n → w.cell? ⟨g, j * 5 + 1, none⟩ = some (.string (T j).text)
  t2 : ∀ j, j < n → w.cell? ⟨g, j * 5 + 2, none⟩ = some (.string (T j).file)
  t3 : ∀ j, j < n → w.cell? ⟨g, j * 5 + 3, none⟩ = some (.int .i64 (T j).line)
  t4 : ∀ j, j < n → w.cell? ⟨g, j * 5 + 4, none⟩ = some (.int .i64 (T j).col)
theorem Tx.later {w w1 : World} {g n : Nat} {T : Nat → Tok} {r : Option Nat} (h : Tx w g n T) (k : w.grownBy w1 r) (hr : some g ≠ r) : Tx w1 g n T :=
  ⟨Nat.lt_of_lt_of_le h.hg k.size, fun j hj => k.cell (h.t0 j hj) hr, fun j hj => k.cell (h.t1 j hj) hr, fun j hj => k.cell (h.t2 j hj) hr, fun j hj => k.cell (h.t3 j hj) hr, fun j hj => k.cell (h.t4 j hj) hr⟩

set_option maxHeartbeats 2000000 in
theorem cval_out (w : World) (g n c i : Nat) (hi : n ≤ i) :
    Calls Ybaf.prog 8 #[.slice (some ⟨g, 0, none⟩) n c, .int .i64 (i : Int)] w fun e w' => e = .returned (.tuple #[.int .i64 (i : Int), .bool false]) ∧ w.grownBy w' none := by
  go_enter Ybaf.func8, Ybaf.ntmps8
  go_wp2
  go_ret2
  exact ⟨rfl, grown_refl _ _⟩

set_option maxHeartbeats 2000000 in
theorem cval_one (w : World) (g n c i : Nat) (T : Nat → Tok) (hn : n ≤ 5000) (hi : i < n) (h : Tx w g n T) (h7 : ¬ ((T i).kind = 7 ∧ (T i).text.toList = [45])) (b : Bool) (hb : decide ((T i).kind = 3 ∨ (T i).kind = 1) = b) :
    Calls Ybaf.prog 8 #[.slice (some ⟨g, 0, none⟩) n c, .int .i64 (i : Int)] w fun e w' => e = .returned (.tuple #[.int .i64 ((i + b.toNat : Nat) : Int), .bool b]) ∧ w.grownBy w' none := by
  have c0 := h.t0 i hi
  have c1 := h.t1 i hi
  have c2 := h.t2 i hi
  have c3 := h.t3 i hi
  have c4 := h.t4 i hi
  have hg := h.hg
  generalize (T i).kind = k at *
  generalize (T i).text = tx at *
  generalize (T i).file = fl at *
  generalize (T i).line = ln at *
  generalize (T i).col = co at *
  clear h
  have hcase : (k == 7) = false ∨ ((k == 7) = true ∧ (tx.toList == [45]) = false) := by
    by_cases h : k = 7
    · right; refine ⟨by simp [h], ?_⟩
      have : ¬ tx.toList = [45] := fun e => h7 ⟨h, e⟩
      simpa using this
    · left; simpa using h
  have hcase2 : ((k == 3) = true ∧ b = true) ∨ ((k == 3) = false ∧ (k == 1) = true ∧ b = true) ∨ ((k == 3) = false ∧ (k == 1) = false ∧ b = false) := by
    by_cases h3 : k = 3
    · left; exact ⟨by simp [h3], by rw [← hb]; simp [h3]⟩
    · by_cases h1 : k = 1
      · right; left; exact ⟨by simp [h3], by simp [h1], by rw [← hb]; simp [h1]⟩
      · right; right; exact ⟨by simp [h3], by simp [h1], by rw [← hb]; simp [h1, h3]⟩
  clear hb h7
  rcases hcase with h7 | ⟨h7, h45⟩ <;> rcases hcase2 with ⟨h3, rfl⟩ | ⟨h3, h1, rfl⟩ | ⟨h3, h1, rfl⟩
  all_goals
    go_enter Ybaf.func8, Ybaf.ntmps8
    go_wp2
    go_ret2
    first
      | exact ⟨rfl, grown_alloc (grown_refl _ _) _⟩
      | exact ⟨by simp, grown_alloc (grown_refl _ _) _⟩

set_option maxHeartbeats 2000000 in
theorem cval_two (w : World) (g n c i : Nat) (T : Nat → Tok) (hn : n ≤ 5000) (hi : i < n) (h : Tx w g n T) (h7 : (T i).kind = 7) (h45 : (T i).text.toList = [45]) (b : Bool) (hb : decide (i + 1 < n ∧ (T (i + 1)).kind = 3) = b) :
    Calls Ybaf.prog 8 #[.slice (some ⟨g, 0, none⟩) n c, .int .i64 (i : Int)] w fun e w' => e = .returned (.tuple #[.int .i64 ((i + 2 * b.toNat : Nat) : Int), .bool b]) ∧ w.grownBy w' none := by
  have c0 := h.t0 i hi
  have c1 := h.t1 i hi
  have c2 := h.t2 i hi
  have c3 := h.t3 i hi
  have c4 := h.t4 i hi
  have hg := h.hg
  have k7 : ((T i).kind == 7) = true := by simp [h7]
  have k45 : ((T i).text.toList == [45]) = true := by simp [h45]
  clear h7 h45
  generalize (T i).kind = k at *
  generalize (T i).text = tx at *
  generalize (T i).file = fl at *
  generalize (T i).line = ln at *
  generalize (T i).col = co at *
  by_cases hlt : i + 1 < n
  · have d0 := h.t0 (i + 1) hlt
    have hcase : (((T (i + 1)).kind == 3) = true ∧ b = true) ∨ (((T (i + 1)).kind == 3) = false ∧ b = false) := by
      by_cases h3 : (T (i + 1)).kind = 3
      · left; exact ⟨by simp [h3], by rw [← hb]; simp [h3, hlt]⟩
      · right; exact ⟨by simp [h3], by rw [← hb]; simp [h3]⟩
    generalize (T (i + 1)).kind = k1 at *
    clear h hb
    rcases hcase with ⟨h3, rfl⟩ | ⟨h3, rfl⟩
    all_goals
      go_enter Ybaf.func8, Ybaf.ntmps8
      go_wp2
      go_ret2
      first
        | exact ⟨rfl, grown_alloc (grown_refl _ _) _⟩
        | exact ⟨by simp, grown_alloc (grown_refl _ _) _⟩
  · obtain rfl : b = false := by rw [← hb]; simp [hlt]
    have hd : decide ((i : Int) + 1 < (n : Int)) = false := by simp; omega
    clear h hb
    go_enter Ybaf.func8, Ybaf.ntmps8
    go_wp2
    go_ret2
    first
      | exact ⟨rfl, grown_alloc (grown_refl _ _) _⟩
      | exact ⟨by simp, grown_alloc (grown_refl _ _) _⟩

set_option maxHeartbeats 1000000 in
/-- csame of one stretch of tokens with itself. -/
theorem csame_any (w : World) (g o m c1 c2 : Nat) (K : Nat → Tok) (hm : m ≤ 5000)
    (t0 : ∀ j, j < m → w.cell? ⟨g, o + j * 5, none⟩ = some (.int .i64 (K j).kind)) (t1 : ∀ j, j < m → w.cell? ⟨g, o + j * 5 + 1, none⟩ = some (.string (K j).text)) (t2 : ∀ j, j < m → w.cell? ⟨g, o + j * 5 + 2, none⟩ = some (.string (K j).file))
    (t3 : ∀ j, j < m → w.cell? ⟨g, o + j * 5 + 3, none⟩ = some (.int .i64 (K j).line)) (t4 : ∀ j, j < m → w.cell? ⟨g, o + j * 5 + 4, none⟩ = some (.int .i64 (K j).col)) :
    Calls Ybaf.prog 9 #[.slice (some ⟨g, o, none⟩) m c1, .slice (some ⟨g, o, none⟩) m c2] w fun e w' => e = .returned (.bool true) ∧ ∃ k, w' = w.drewN k := by
  go_enter Ybaf.func9, Ybaf.ntmps9
  go_wp2
  go_loopw [5] (fun i wr => ∃ k d : Nat, k ≤ m ∧ i = .int .i64 (k : Int) ∧ wr = w.drewN d) (fun i _ => m - (intOf i).toNat)
  case atStart => exact ⟨0, 0, Nat.zero_le _, rfl, rfl⟩
  case round =>
    obtain ⟨k, d, hk, rfl, rfl⟩ := hrel
    by_cases hlt : k < m
    · have c0 := t0 k hlt
      have c1 := t1 k hlt
      have c2 := t2 k hlt
      have c3 := t3 k hlt
      have c4 := t4 k hlt
      clear t0 t1 t2 t3 t4
      generalize (K k).kind = kk at *
      generalize (K k).text = tx at *
      generalize (K k).file = fl at *
      generalize (K k).line = ln at *
      generalize (K k).col = co at *
      go_wp2
      go_quiet (fail)
      go_wp2
      go_roundw
      case rel => exact ⟨k + 1, _, by omega, by go_num, rfl⟩
      case measure => simp [intOf]; omega
    · go_wp2
      go_ret
      exact ⟨rfl, d, rfl⟩

end Go.Proofs.YbulkstgFmt.Tk
