import Derived.Test.YbulksxoFmtSteps
namespace Go.Proofs.YbulksxoFmt.Bx
open Go Go.RowKit

/-- Where the run j ends. -/
def nx (L : List Nat) (m e j : Nat) : Nat := if j + 1 < m then L.getD (3 * (j + 1)) 0 else e
/-- The samples of the first i runs. -/
def tot (L : List Nat) (m e : Nat) : Nat → Nat
  | 0 => 0
  | i + 1 => tot L m e i + (nx L m e i - L.getD (3 * i) 0) * L.getD (3 * i + 1) 0

/-- The chunk table of Kc chunks that hold Sc samples. -/
structure Good (L : List Nat) (m Kc Sc : Nat) : Prop where
  len : L.length = 3 * m
  z : m = 0 → Kc = 0 ∧ Sc = 0
  one : 0 < m → L.getD 0 0 = 1
  inc : ∀ i, i + 1 < m → L.getD (3 * i) 0 < L.getD (3 * (i + 1)) 0
  last : 0 < m → L.getD (3 * (m - 1)) 0 ≤ Kc
  diff : ∀ i, i + 1 < m → ¬ (L.getD (3 * (i + 1) + 1) 0 = L.getD (3 * i + 1) 0 ∧ L.getD (3 * (i + 1) + 2) 0 = L.getD (3 * i + 2) 0)
  sum : tot L m (Kc + 1) m = Sc

theorem Good.empty : Good [] 0 0 0 := ⟨rfl, fun _ => ⟨rfl, rfl⟩, fun h => absurd h (by omega), fun i h => absurd h (by omega), fun h => absurd h (by omega), fun i h => absurd h (by omega), rfl⟩

theorem tot_congr (L L' : List Nat) (m m' e e' : Nat) : ∀ i, (∀ j, j < i → nx L m e j = nx L' m' e' j ∧ L.getD (3 * j) 0 = L'.getD (3 * j) 0 ∧ L.getD (3 * j + 1) 0 = L'.getD (3 * j + 1) 0) → tot L m e i = tot L' m' e' i
  | 0, _ => rfl
  | i + 1, h => by
    obtain ⟨h1, h2, h3⟩ := h i (by omega)
    simp only [tot]
    rw [tot_congr L L' m m' e e' i (fun j hj => h j (by omega)), h1, h2, h3]

theorem getD_left (L M : List Nat) (j : Nat) (h : j < L.length) : (L ++ M).getD j 0 = L.getD j 0 := by
  simp only [List.getD]
  rw [List.getElem?_append_left h]
theorem getD_right (L M : List Nat) (j k : Nat) (h : j = L.length + k) : (L ++ M).getD j 0 = M.getD k 0 := by
  simp only [List.getD]
  rw [List.getElem?_append_right (by omega)]
  congr 2
  omega

theorem Good.ge {L : List Nat} {m Kc Sc : Nat} (h : Good L m Kc Sc) : ∀ i, i < m → i + 1 ≤ L.getD (3 * i) 0
  | 0, hi => by have := h.one hi; simp only [Nat.mul_zero]; omega
  | i + 1, hi => by
    have h1 := h.ge i (by omega)
    have h2 := h.inc i hi
    omega
theorem Good.le {L : List Nat} {m Kc Sc : Nat} (h : Good L m Kc Sc) : m ≤ Kc := by
  by_cases h0 : m = 0
  · omega
  · have h1 := h.ge (m - 1) (by omega)
    have h2 := h.last (by omega)
    omega
theorem tot_mono (L : List Nat) (m e : Nat) : ∀ i k, tot L m e i ≤ tot L m e (i + k)
  | _, 0 => Nat.le_refl _
  | i, k + 1 => Nat.le_trans (tot_mono L m e i k) (Nat.le_add_right _ _)
theorem tot_le {L : List Nat} {m Kc Sc : Nat} (h : Good L m Kc Sc) (i : Nat) (hi : i ≤ m) : tot L m (Kc + 1) i ≤ Sc := by
  have := tot_mono L m (Kc + 1) i (m - i)
  rw [show i + (m - i) = m by omega, h.sum] at this
  exact this

/-- A chunk is closed. -/
theorem Good.close {L : List Nat} {m Kc Sc clen cent : Nat} (h : Good L m Kc Sc) : ∃ m', Good (closeL L m (Kc + 1) clen cent) m' (Kc + 1) (Sc + clen) := by
  unfold closeL
  by_cases hs : Kc + 1 = 0 ∨ (0 < m ∧ L.getD (3 * (m - 1) + 1) 0 = clen ∧ L.getD (3 * (m - 1) + 2) 0 = cent)
  · rw [if_pos hs]
    rcases hs with h0 | ⟨hm, h1, h2⟩
    · omega
    · refine ⟨m, h.len, fun h0 => by omega, h.one, h.inc, fun h0 => by have := h.last h0; omega, h.diff, ?_⟩
      obtain ⟨k, rfl⟩ : ∃ k, m = k + 1 := ⟨m - 1, by omega⟩
      have hsum := h.sum
      have hl := h.last hm
      simp only [Nat.add_sub_cancel] at h1 hl
      simp only [tot] at hsum ⊢
      rw [tot_congr L L (k + 1) (k + 1) (Kc + 1 + 1) (Kc + 1) k (fun j hj => ⟨by simp only [nx]; rw [if_pos (by omega), if_pos (by omega)], rfl, rfl⟩)]
      have e1 : nx L (k + 1) (Kc + 1 + 1) k = Kc + 1 + 1 := by simp [nx]
      have e2 : nx L (k + 1) (Kc + 1) k = Kc + 1 := by simp [nx]
      rw [e2] at hsum
      rw [e1, show Kc + 1 + 1 - L.getD (3 * k) 0 = (Kc + 1 - L.getD (3 * k) 0) + 1 by omega, Nat.add_mul, Nat.one_mul, h1]
      rw [h1] at hsum
      omega
  · rw [if_neg hs]
    have hlen := h.len
    have gl : ∀ j, j < 3 * m → (L ++ [Kc + 1, clen, cent]).getD j 0 = L.getD j 0 := fun j hj => getD_left _ _ _ (by omega)
    have r0 : (L ++ [Kc + 1, clen, cent]).getD (3 * m) 0 = Kc + 1 := getD_right _ _ _ 0 (by omega)
    have r1 : (L ++ [Kc + 1, clen, cent]).getD (3 * m + 1) 0 = clen := getD_right _ _ _ 1 (by omega)
    have r2 : (L ++ [Kc + 1, clen, cent]).getD (3 * m + 2) 0 = cent := getD_right _ _ _ 2 (by omega)
    refine ⟨m + 1, by simp only [List.length_append, List.length_cons, List.length_nil]; omega, fun h0 => by omega, fun _ => ?_, fun i hi => ?_, fun _ => ?_, fun i hi => ?_, ?_⟩
    · by_cases h0 : m = 0
      · have := h.z h0
        have r := r0
        rw [h0] at r
        simp only [Nat.mul_zero] at r
        omega
      · rw [gl 0 (by omega)]; exact h.one (by omega)
    · by_cases h1 : i + 1 < m
      · rw [gl _ (by omega), gl _ (by omega)]; exact h.inc i h1
      · obtain rfl : m = i + 1 := by omega
        rw [r0, gl _ (by omega)]
        have := h.last (by omega)
        simp only [Nat.add_sub_cancel] at this
        omega
    · simp only [Nat.add_sub_cancel]
      rw [r0]
      exact Nat.le_refl _
    · by_cases h1 : i + 1 < m
      · rw [gl _ (by omega), gl _ (by omega), gl _ (by omega), gl _ (by omega)]; exact h.diff i h1
      · obtain rfl : m = i + 1 := by omega
        rw [r1, r2, gl _ (by omega), gl _ (by omega)]
        intro hc
        apply hs
        right
        simp only [Nat.add_sub_cancel]
        exact ⟨by omega, hc.1.symm, hc.2.symm⟩
    · simp only [tot]
      have hsum := h.sum
      rw [tot_congr (L ++ [Kc + 1, clen, cent]) L (m + 1) m (Kc + 1 + 1) (Kc + 1) m (fun j hj => ⟨?_, gl _ (by omega), gl _ (by omega)⟩), hsum, r0, r1]
      · have e1 : nx (L ++ [Kc + 1, clen, cent]) (m + 1) (Kc + 1 + 1) m = Kc + 1 + 1 := by simp [nx]
        rw [e1, show Kc + 1 + 1 - (Kc + 1) = 1 by omega, Nat.one_mul]
      · simp only [nx]
        rw [if_pos (by omega)]
        by_cases h1 : j + 1 < m
        · rw [if_pos h1, gl _ (by omega)]
        · obtain rfl : m = j + 1 := by omega
          rw [if_neg (by omega), r0]

end Go.Proofs.YbulksxoFmt.Bx
