import Derived.Test.YbulkstgBuf
namespace Go.Proofs.Ybulkstg.Buf
open Go Go.RowKit

/-- The length determinant and the contents, in fragments (f: fuel). -/
def encF : Nat → List Int → List Int
  | 0, _ => []
  | f + 1, c =>
    if c.length < 128 then (c.length : Int) :: c
    else if c.length < 16384 then (128 + (c.length : Int) / 256) :: ((c.length : Int) % 256) :: c
    else (192 + ((min (c.length / 16384) 4 : Nat) : Int)) :: (c.take (min (c.length / 16384) 4 * 16384) ++ encF f (c.drop (min (c.length / 16384) 4 * 16384)))

set_option maxHeartbeats 1000000 in
theorem length_a (W : World) (B : Nat) (v : Value) (w : World) (l : List Int) (p : Int) (n : Int) (h : Wr W B v w l p) (h0 : 0 ≤ p) (h1 : p ≤ 1000000000000) (hl : l.length ≤ 1000000000) (hn0 : 0 ≤ n) (hn1 : n < 128) :
    Calls Yba.prog 19 #[.pointer (some ⟨B, 0, none⟩), .int .i64 n] w fun e w' => e = .returned (.tuple #[.int .i64 n, .bool false]) ∧ ∃ v', Wr W B v' w' (l ++ [n]) (p + 7 - (p + 7) % 8 + 8) := by
  have hx : IntKind.u64.wrap n = n := by rw [IntKind.wrap_u64]; omega
  go_enter Yba.func19, Yba.ntmps19
  go_wp2_with fail
  refine (num1_any W B v _ l p n h h0 h1 hl hn0 (by omega)).mono ?_
  rintro e w1 ⟨rfl, v', hw1⟩
  go_wp2
  go_ret2
  exact ⟨rfl, _, hw1⟩

set_option maxHeartbeats 1000000 in
theorem length_b (W : World) (B : Nat) (v : Value) (w : World) (l : List Int) (p : Int) (n : Int) (h : Wr W B v w l p) (h0 : 0 ≤ p) (h1 : p ≤ 1000000000000) (hl : l.length ≤ 1000000000) (hn0 : 128 ≤ n) (hn1 : n < 16384) :
    Calls Yba.prog 19 #[.pointer (some ⟨B, 0, none⟩), .int .i64 n] w fun e w' => e = .returned (.tuple #[.int .i64 n, .bool false]) ∧ ∃ v', Wr W B v' w' (l ++ [128 + n / 256, n % 256]) (p + 7 - (p + 7) % 8 + 16) := by
  have hx : IntKind.u64.wrap n = n := by rw [IntKind.wrap_u64]; omega
  have hb := Bt.u64_or_8000 n (by omega) hn1
  have e1 : (32768 + n) / 256 = 128 + n / 256 := by omega
  have e2 : (32768 + n) % 256 = n % 256 := by omega
  have hnum := fun w h => num2_any W B v w l p (32768 + n) h h0 h1 hl (by omega) (by omega)
  rw [e1, e2] at hnum
  have HN : Hid _ := hnum
  clear hnum e1 e2
  go_enter Yba.func19, Yba.ntmps19
  go_wp2_with fail
  refine (HN.out _ h).mono ?_
  rintro e w1 ⟨rfl, v', hw1⟩
  go_wp2
  go_ret2
  exact ⟨rfl, _, hw1⟩

set_option maxHeartbeats 1000000 in
theorem length_c (W : World) (B : Nat) (v : Value) (w : World) (l : List Int) (p : Int) (n : Int) (h : Wr W B v w l p) (h0 : 0 ≤ p) (h1 : p ≤ 1000000000000) (hl : l.length ≤ 1000000000) (hn0 : 16384 ≤ n) (hn1 : n < 65536) :
    Calls Yba.prog 19 #[.pointer (some ⟨B, 0, none⟩), .int .i64 n] w fun e w' => e = .returned (.tuple #[.int .i64 (n / 16384 * 16384), .bool true]) ∧ ∃ v', Wr W B v' w' (l ++ [192 + n / 16384]) (p + 7 - (p + 7) % 8 + 8) := by
  have hm1 : n / 16384 < 4 := by omega
  have hb := Bt.u64_or_c0 (n / 16384) (by omega) (by omega)
  go_enter Yba.func19, Yba.ntmps19
  go_wp2_with fail
  refine (num1_any W B v _ l p (192 + n / 16384) h h0 h1 hl (by omega) (by omega)).mono ?_
  rintro e w1 ⟨rfl, v', hw1⟩
  go_wp2
  go_ret2
  exact ⟨rfl, _, hw1⟩

set_option maxHeartbeats 1000000 in
theorem length_d (W : World) (B : Nat) (v : Value) (w : World) (l : List Int) (p : Int) (n : Int) (h : Wr W B v w l p) (h0 : 0 ≤ p) (h1 : p ≤ 1000000000000) (hl : l.length ≤ 1000000000) (hn0 : 65536 ≤ n) (hn1 : n < 1000000000) :
    Calls Yba.prog 19 #[.pointer (some ⟨B, 0, none⟩), .int .i64 n] w fun e w' => e = .returned (.tuple #[.int .i64 65536, .bool true]) ∧ ∃ v', Wr W B v' w' (l ++ [196]) (p + 7 - (p + 7) % 8 + 8) := by
  have hm1 : 4 ≤ n / 16384 := by omega
  have hb : bits .or .u64 192 4 = 196 := by decide
  by_cases h4 : n / 16384 = 4
  · go_enter Yba.func19, Yba.ntmps19
    go_wp2_with fail
    refine (num1_any W B v _ l p 196 h h0 h1 hl (by omega) (by omega)).mono ?_
    rintro e w1 ⟨rfl, v', hw1⟩
    go_wp2
    go_ret2
    exact ⟨rfl, _, hw1⟩
  · have h5 : 4 < n / 16384 := by omega
    clear h4 hm1
    go_enter Yba.func19, Yba.ntmps19
    go_wp2_with fail
    refine (num1_any W B v _ l p 196 h h0 h1 hl (by omega) (by omega)).mono ?_
    rintro e w1 ⟨rfl, v', hw1⟩
    go_wp2
    go_ret2
    exact ⟨rfl, _, hw1⟩

/-- One contract of Length for every n: cnt, the octets, more. -/
def lcnt (n : Nat) : Nat := if n < 16384 then n else min (n / 16384) 4 * 16384
def lhead (n : Nat) : List Int := if n < 128 then [(n : Int)] else if n < 16384 then [128 + (n : Int) / 256, (n : Int) % 256] else [192 + ((min (n / 16384) 4 : Nat) : Int)]
def lmore (n : Nat) : Bool := decide (16384 ≤ n)

theorem length_any (W : World) (B : Nat) (v : Value) (w : World) (l : List Int) (p : Int) (n : Nat) (h : Wr W B v w l p) (h0 : 0 ≤ p) (h1 : p ≤ 1000000000000) (hl : l.length ≤ 1000000000) (hn1 : n < 1000000000) :
    Calls Yba.prog 19 #[.pointer (some ⟨B, 0, none⟩), .int .i64 (n : Int)] w fun e w' => e = .returned (.tuple #[.int .i64 (lcnt n : Nat), .bool (lmore n)]) ∧ ∃ v', Wr W B v' w' (l ++ lhead n) (p + 7 - (p + 7) % 8 + 8 * (lhead n).length) := by
  by_cases ha : n < 128
  · have e1 : lcnt n = n := by simp [lcnt]; omega
    have e2 : lmore n = false := by simp [lmore]; omega
    have e3 : lhead n = [(n : Int)] := by simp [lhead]; omega
    rw [e1, e2, e3]
    exact length_a W B v w l p n h h0 h1 hl (by omega) (by omega)
  by_cases hb : n < 16384
  · have e1 : lcnt n = n := by simp [lcnt]; omega
    have e2 : lmore n = false := by simp [lmore]; omega
    have e3 : lhead n = [128 + (n : Int) / 256, (n : Int) % 256] := by simp [lhead, ha, hb]
    rw [e1, e2, e3]
    exact length_b W B v w l p n h h0 h1 hl (by omega) (by omega)
  have e2 : lmore n = true := by simp [lmore]; omega
  by_cases hc : n < 65536
  · have e1 : ((lcnt n : Nat) : Int) = (n : Int) / 16384 * 16384 := by simp only [lcnt]; rw [if_neg hb]; omega
    have e3 : lhead n = [192 + (n : Int) / 16384] := by simp only [lhead]; rw [if_neg ha, if_neg hb]; congr 2; omega
    rw [e1, e2, e3]
    exact length_c W B v w l p n h h0 h1 hl (by omega) (by omega)
  · have e1 : ((lcnt n : Nat) : Int) = 65536 := by simp only [lcnt]; rw [if_neg hb]; omega
    have e3 : lhead n = [196] := by simp only [lhead]; rw [if_neg ha, if_neg hb]; congr 1; omega
    rw [e1, e2, e3]
    exact length_d W B v w l p n h h0 h1 hl (by omega) (by omega)

theorem lcnt_le (n : Nat) : lcnt n ≤ n := by unfold lcnt; split <;> omega

/-- One turn of the recursion. -/
theorem enc_more (f : Nat) (c : List Int) (h : 16384 ≤ c.length) : encF (f + 1) c = lhead c.length ++ (c.take (lcnt c.length) ++ encF f (c.drop (lcnt c.length))) := by
  simp only [encF, lhead, lcnt]
  rw [if_neg (by omega), if_neg (by omega), if_neg (by omega), if_neg (by omega), if_neg (by omega)]
  rfl
theorem enc_last (f : Nat) (c : List Int) (h : c.length < 16384) : encF (f + 1) c = lhead c.length ++ c := by
  simp only [encF, lhead]
  by_cases h1 : c.length < 128
  · rw [if_pos h1, if_pos h1]; rfl
  · rw [if_neg h1, if_neg h1, if_pos h, if_pos h]; rfl
theorem lhead_len (n : Nat) : (lhead n).length ≤ 2 := by unfold lhead; split <;> (try split) <;> simp

theorem cells5 (w : World) : (Go.sizeOf (Yba.prog.elem 23)).run Yba.prog w = .ok 1 w := by
  have h : Yba.prog.elem 23 = 5 := by kernel_rfl
  have h5 : Yba.prog.cellsOf 5 = 1 := by kernel_rfl
  obtain ⟨i0, hi, _⟩ := info_parts info5
  rw [h, run_sizeOf w hi, h5]
theorem under23 : Yba.prog.underlying 23 = some (.slice (Yba.prog.elem 23)) := by kernel_rfl

theorem slice_to (w : World) (ao : Option Addr) (len c n : Nat) (h : n ≤ c) :
    (Instr.slice 23 (.slice ao len c) none (some (.int .i64 (n : Int))) none).run Yba.prog w = .ok (.slice ao n c) w := by
  rw [run_slice_h w 23 ao len c under23 .i64 n (by omega) (by omega), cells5]
  simp only [Result.andThen, sliced, Int.toNat_natCast]
  congr 2
  cases ao <;> simp [Addr.add]
theorem slice_from (w : World) (ao : Option Addr) (len c n : Nat) (h : n ≤ len) :
    (Instr.slice 23 (.slice ao len c) (some (.int .i64 (n : Int))) none none).run Yba.prog w = .ok (.slice (if c = n then ao else ao.map (fun x => x.add n)) (len - n) (c - n)) w := by
  rw [run_slice_l w 23 ao len c under23 .i64 n (by omega) (by omega), cells5]
  simp only [Result.andThen, sliced, Int.toNat_natCast, Nat.mul_one]

def sliceLen : Value → Nat | .slice _ n _ => n | _ => 0
def boolN : Value → Nat | .bool true => 1 | _ => 0

set_option maxHeartbeats 2000000 in
theorem open_any (W : World) (B : Nat) (v : Value) (w : World) (l : List Int) (p : Int) (ao : Option Addr) (c m : Nat) (xs : List Int) (h : Wr W B v w l p) (h0 : 0 ≤ p) (hp : p + 7 - (p + 7) % 8 = 8 * l.length)
    (hl : l.length ≤ 1000) (hm : xs.length = m) (hm1 : m ≤ 131072) (hx : Sl W ao c xs) :
    Calls Yba.prog 14 #[.pointer (some ⟨B, 0, none⟩), .slice ao m c] w fun e w' => e = .returned (.tuple #[]) ∧ ∃ v', Wr W B v' w' (l ++ encF 9 xs) (8 * (l ++ encF 9 xs).length) := by
  go_enter Yba.func14, Yba.ntmps14
  go_wp2
  go_loopw [1, 4] (fun s b wr => ∃ (v1 : Value) (l1 : List Int) (p1 : Int), Wr W B v1 wr l1 p1 ∧
      ((b = .bool false ∧ l1 = l ++ encF 9 xs ∧ p1 = 8 * l1.length) ∨
       (b = .bool true ∧ ∃ (ao1 : Option Addr) (c1 m1 f : Nat) (xs1 : List Int), s = .slice ao1 m1 c1 ∧ xs1.length = m1 ∧ Sl W ao1 c1 xs1 ∧ m1 < 16384 * f ∧ f ≤ 9 ∧ m1 ≤ 131072 ∧ l1.length + m1 + 2 * f ≤ 200000 ∧ 0 ≤ p1 ∧ p1 + 7 - (p1 + 7) % 8 = 8 * l1.length ∧ l1 ++ encF f xs1 = l ++ encF 9 xs)))
    (fun s b _ => sliceLen s + boolN b)
  case atStart => exact ⟨v, l, p, h, Or.inr ⟨rfl, ao, c, m, 9, xs, rfl, hm, hx, by omega, by omega, by omega, by omega, h0, hp, rfl⟩⟩
  case round =>
    obtain ⟨v1, l1, p1, hw, hrel⟩ := hrel
    rcases hrel with ⟨rfl, hl1, hp1⟩ | ⟨rfl, ao1, c1, m1, f, xs1, rfl, hlen, hsl, hf, hf9, hm2, hbd, hp0, hpa, hT⟩
    · have HL : Hid _ := hl1
      have HP : Hid _ := hp1
      clear hl1 hp1
      go_wp2
      go_end0
      refine ⟨rfl, v1, ?_⟩
      rw [← HL.out, ← HP.out]
      exact hw
    · have hle := lcnt_le m1
      have hcm := hsl.le
      have hs1 := fun w => slice_to w ao1 m1 c1 (lcnt m1) (by omega)
      have hsl' := hsl.drop (lcnt m1) (by omega)
      have hs2 := fun w => slice_from w ao1 m1 c1 (lcnt m1) (by omega)
      generalize (if c1 = lcnt m1 then ao1 else ao1.map (fun x => x.add (lcnt m1))) = ao2 at hs2 hsl'
      have hh2 := lhead_len m1
      have HT : Hid _ := hT
      have HA : Hid _ := hpa
      have HN : Hid _ := hlen
      have hp2 : p1 ≤ 1000000000000 := by omega
      clear hT hpa hlen
      go_wp2_with fail
      refine (length_any W B v1 _ l1 p1 m1 hw hp0 hp2 (by omega) (by omega)).mono ?_
      rintro e w1 ⟨rfl, v2, hw1⟩
      rw [HA.out] at hw1
      go_wp2_with fail
      refine (octets_any W B v2 _ (l1 ++ lhead m1) _ ao1 c1 (lcnt m1) (xs1.take (lcnt m1)) hw1 (by omega) (by omega) (by simp; omega) (by rw [List.length_take, HN.out]; omega) (by omega) (hsl.take _)).mono ?_
      rintro e w2 ⟨rfl, v3, hw2⟩
      have hq : (8 * (l1.length : Int) + 8 * (lhead m1).length) + 7 - ((8 * (l1.length : Int) + 8 * (lhead m1).length) + 7) % 8 = 8 * l1.length + 8 * (lhead m1).length := by omega
      rw [hq] at hw2
      clear hq
      go_wp2
      go_roundw
      case rel =>
        by_cases hmo : 16384 ≤ m1
        · have e2 : lmore m1 = true := by simp [lmore]; omega
          obtain ⟨f', rfl⟩ : ∃ f', f = f' + 1 := ⟨f - 1, by omega⟩
          have hlc : 16384 ≤ lcnt m1 := by unfold lcnt; rw [if_neg (by omega)]; omega
          have hT := HT.out
          rw [enc_more f' xs1 (by rw [HN.out]; exact hmo), HN.out] at hT
          refine ⟨v3, _, _, hw2, Or.inr ⟨by rw [e2], ao2, c1 - lcnt m1, m1 - lcnt m1, f', xs1.drop (lcnt m1), rfl, by rw [List.length_drop, HN.out], hsl', by omega, by omega, by omega, ?_, by omega, ?_, ?_⟩⟩
          · simp; rw [HN.out]; omega
          · simp; rw [HN.out]; omega
          · rw [← hT]; simp
        · have e2 : lmore m1 = false := by simp [lmore]; omega
          obtain ⟨f', rfl⟩ : ∃ f', f = f' + 1 := ⟨f - 1, by omega⟩
          have hlc : lcnt m1 = m1 := by unfold lcnt; rw [if_pos (by omega)]
          have hT := HT.out
          rw [enc_last f' xs1 (by rw [HN.out]; omega), HN.out] at hT
          have ht : xs1.take m1 = xs1 := by rw [← HN.out]; exact List.take_length
          refine ⟨v3, _, _, hw2, Or.inl ⟨by rw [e2], ?_, ?_⟩⟩
          · rw [← hT, hlc, ht]; simp
          · simp; rw [HN.out]; omega
      case measure =>
        by_cases hmo : 16384 ≤ m1
        · have e2 : lmore m1 = true := by simp [lmore]; omega
          have hlc : 16384 ≤ lcnt m1 := by unfold lcnt; rw [if_neg (by omega)]; omega
          simp [sliceLen, boolN, e2]; omega
        · have e2 : lmore m1 = false := by simp [lmore]; omega
          simp [sliceLen, boolN, e2]; omega

end Go.Proofs.Ybulkstg.Buf
