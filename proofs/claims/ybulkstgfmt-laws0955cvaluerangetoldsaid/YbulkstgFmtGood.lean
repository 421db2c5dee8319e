import Derived.Test.YbulkstgFmtHelp
import Derived.Test.YbulkstgFmtElemFour
namespace Go.Proofs.YbulkstgFmt.Tk
open Go Go.RowKit
open Go.Extern.Stop Go.Stop Go.Extern

def tisK (k : Int) (tx s : ByteArray) : Bool := (k != 0) && (tx.toList == s.toList)
theorem tis_eq (t : Tok) (s : ByteArray) : tis t s = tisK t.kind t.text s := rfl

/-- The six kinds of tokens of the law, and the end. -/
def Six (t : Tok) : Prop := (t.kind = 3 ∧ t.text = ⟨#[55]⟩) ∨ (t.kind = 1 ∧ t.text = ⟨#[120]⟩) ∨ (t.kind = 7 ∧ t.text = ⟨#[60]⟩) ∨ (t.kind = 6 ∧ t.text = ⟨#[46, 46]⟩) ∨ (t.kind = 7 ∧ t.text = ⟨#[45]⟩) ∨ (t.kind = 7 ∧ t.text = ⟨#[44]⟩) ∨ (t.kind = 0 ∧ t.text = ⟨#[]⟩)

theorem six_mk (x i : Int) (f : ByteArray) : Six (mkTok x i f) := by
  unfold mkTok Six
  split
  · exact Or.inl ⟨rfl, rfl⟩
  split
  · exact Or.inr (Or.inl ⟨rfl, rfl⟩)
  split
  · exact Or.inr (Or.inr (Or.inl ⟨rfl, rfl⟩))
  split
  · exact Or.inr (Or.inr (Or.inr (Or.inl ⟨rfl, rfl⟩)))
  split
  · exact Or.inr (Or.inr (Or.inr (Or.inr (Or.inl ⟨rfl, rfl⟩))))
  · exact Or.inr (Or.inr (Or.inr (Or.inr (Or.inr (Or.inl ⟨rfl, rfl⟩)))))

theorem six_at (n : Nat) (T : Nat → Tok) (hT : ∀ j, Six (T j)) (i : Nat) : Six (tokAt n T i) := by
  unfold tokAt
  split
  · exact hT i
  · split <;> exact Or.inr (Or.inr (Or.inr (Or.inr (Or.inr (Or.inr ⟨rfl, rfl⟩)))))

theorem six_kw {t : Tok} (h : Six t) : NoKw t ∧ tis t ⟨#[123]⟩ = false := by
  rcases h with ⟨h, k⟩ | ⟨h, k⟩ | ⟨h, k⟩ | ⟨h, k⟩ | ⟨h, k⟩ | ⟨h, k⟩ | ⟨h, k⟩
  all_goals
    refine ⟨⟨?_, ?_, ?_, ?_, ?_, ?_, ?_⟩, ?_⟩ <;> rw [tis_eq, h, k] <;> decide +kernel

/-- On such a token: the signs by kind and text. -/
theorem six_minus {t : Tok} (h : Six t) : tis t ⟨#[45]⟩ = decide (t.kind = 7 ∧ t.text.toList = [45]) := by
  rcases h with ⟨h, k⟩ | ⟨h, k⟩ | ⟨h, k⟩ | ⟨h, k⟩ | ⟨h, k⟩ | ⟨h, k⟩ | ⟨h, k⟩
  all_goals rw [tis_eq, h, k]; decide +kernel
theorem six_less {t : Tok} (h : Six t) : tis t ⟨#[60]⟩ = ((t.kind == 7) && (t.text.toList == [60])) := by
  rcases h with ⟨h, k⟩ | ⟨h, k⟩ | ⟨h, k⟩ | ⟨h, k⟩ | ⟨h, k⟩ | ⟨h, k⟩ | ⟨h, k⟩
  all_goals rw [tis_eq, h, k]; decide +kernel

theorem value_ok (B g n c : Nat) (T : Nat → Tok) (hT : ∀ j, Six (T j)) (i i' : Nat) (h : vend n T i = some i') : ValueOk B g n c T i i' := by
  intro w hP
  have hle := hP.le
  have hi : i < n := by
    rcases Nat.lt_or_ge i n with h1 | h1
    · exact h1
    · simp [vend, Nat.not_lt.2 h1] at h
  have ht := tokAt_lt (T := T) hi
  have hs := six_at n T hT i
  have h1 := (six_kw hs).2
  have h2 := six_minus hs
  rw [ht] at h2
  by_cases hm : (T i).kind = 7 ∧ (T i).text.toList = [45]
  · by_cases hn : i + 1 < n ∧ (T (i + 1)).kind = 3
    · have e : i' = i + 2 := by simp [vend, hi, hm, hn] at h; exact h.symm
      subst e
      have := value_two w B g n c i T hP h1 (by rw [ht, h2]; simp [hm]) (by rw [tokAt_lt hn.1]; exact hn.2)
      rw [show i + 2 - i = 2 by omega]
      exact this
    · simp [vend, hi, hm] at h
      exact absurd ⟨h.1.1, h.1.2⟩ hn
  · by_cases hk : (T i).kind = 3 ∨ (T i).kind = 1
    · have e : i' = i + 1 := by
        simp only [vend] at h
        rw [if_pos hi, if_neg hm, if_pos hk] at h
        exact (Option.some.inj h).symm
      subst e
      have := value_one w B g n c i T hP (by rw [ht]; exact hk) h1 (by rw [ht, h2]; simpa using hm)
      rw [show i + 1 - i = 1 by omega]
      exact this
    · simp only [vend] at h
      rw [if_pos hi, if_neg hm, if_neg hk] at h
      cases h

theorem value_err (F : Interp) (B g n c : Nat) (T : Nat → Tok) (hT : ∀ j, Six (T j)) (i : Nat) (h : vend n T i = none) : ValueErr F B g n c T i := by
  intro w hF hP
  have hs := six_at n T hT i
  have h1 := (six_kw hs).2
  have h2 := six_minus hs
  by_cases hi : i < n
  · have ht := tokAt_lt (T := T) hi
    by_cases hm : (T i).kind = 7 ∧ (T i).text.toList = [45]
    · refine value_err2 F w B g n c i T hF hP h1 (by rw [h2, ht]; simp [hm]) ?_
      intro h3
      have hlt := lt_of_kind (T := T) (n := n) (i := i + 1) (by rw [h3]; decide)
      rw [tokAt_lt hlt] at h3
      simp [vend, hi, hm, hlt, h3] at h
    · have hk : ¬ ((T i).kind = 3 ∨ (T i).kind = 1) := by
        intro hk
        simp only [vend] at h
        rw [if_pos hi, if_neg hm, if_pos hk] at h
        cases h
      exact value_err1 F w B g n c i T hF hP (by rw [ht]; exact fun e => hk (Or.inl e)) (by rw [ht]; exact fun e => hk (Or.inr e)) h1 (by rw [h2, ht]; simpa using hm)
  · have hk0 : (tokAt n T i).kind = 0 := by
      rcases Int.lt_trichotomy (tokAt n T i).kind 0 with h' | h' | h'
      · exact absurd (lt_of_kind (T := T) (n := n) (i := i) (by omega)) hi
      · exact h'
      · exact absurd (lt_of_kind (T := T) (n := n) (i := i) (by omega)) hi
    exact value_err1 F w B g n c i T hF hP (by rw [hk0]; decide) (by rw [hk0]; decide) h1 (by rw [h2, hk0]; simp)

/-- cval by vend. -/
theorem cval_some (w : World) (g n c i e : Nat) (T : Nat → Tok) (hn : n ≤ 5000) (h : Tx w g n T) (hv : vend n T i = some e) :
    Calls Ybaf.prog 8 #[.slice (some ⟨g, 0, none⟩) n c, .int .i64 (i : Int)] w fun e' w' => e' = .returned (.tuple #[.int .i64 (e : Int), .bool true]) ∧ w.grownBy w' none := by
  have hi : i < n := by
    rcases Nat.lt_or_ge i n with h1 | h1
    · exact h1
    · simp [vend, Nat.not_lt.2 h1] at hv
  by_cases hm : (T i).kind = 7 ∧ (T i).text.toList = [45]
  · by_cases hk : i + 1 < n ∧ (T (i + 1)).kind = 3
    · have e1 : e = i + 2 := by simp [vend, hi, hm, hk] at hv; exact hv.symm
      subst e1
      exact cval_two w g n c i T hn hi h hm.1 hm.2 true (by simpa using hk)
    · simp [vend, hi, hm] at hv
      exact absurd ⟨hv.1.1, hv.1.2⟩ hk
  · by_cases hk : (T i).kind = 3 ∨ (T i).kind = 1
    · have e1 : e = i + 1 := by
        simp only [vend] at hv
        rw [if_pos hi, if_neg hm, if_pos hk] at hv
        exact (Option.some.inj hv).symm
      subst e1
      exact cval_one w g n c i T hn hi h hm true (by simpa using hk)
    · simp only [vend] at hv
      rw [if_pos hi, if_neg hm, if_neg hk] at hv
      cases hv

theorem cval_none (w : World) (g n c i : Nat) (T : Nat → Tok) (hn : n ≤ 5000) (h : Tx w g n T) (hv : vend n T i = none) :
    Calls Ybaf.prog 8 #[.slice (some ⟨g, 0, none⟩) n c, .int .i64 (i : Int)] w fun e' w' => e' = .returned (.tuple #[.int .i64 (i : Int), .bool false]) ∧ w.grownBy w' none := by
  by_cases hi : i < n
  · by_cases hm : (T i).kind = 7 ∧ (T i).text.toList = [45]
    · have hk : ¬ (i + 1 < n ∧ (T (i + 1)).kind = 3) := by
        intro hk
        simp [vend, hi, hm, hk] at hv
      exact cval_two w g n c i T hn hi h hm.1 hm.2 false (by simpa using hk)
    · have hk : ¬ ((T i).kind = 3 ∨ (T i).kind = 1) := by
        intro hk
        simp only [vend] at hv
        rw [if_pos hi, if_neg hm, if_pos hk] at hv
        cases hv
      exact cval_one w g n c i T hn hi h hm false (by simpa using hk)
  · exact cval_out w g n c i (by omega)

end Go.Proofs.YbulkstgFmt.Tk
