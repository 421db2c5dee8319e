import Derived.Test.YbulkstgBit
namespace Go.Proofs.Ybulkstg.Buf
open Go Go.RowKit

/-- The octets after the first k bits. -/
def wb (bs : List Bool) : Nat → List Int
  | 0 => []
  | k + 1 => stepW (wb bs k) k (bs.getD k false)

theorem wb_len (bs : List Bool) (k : Nat) : (wb bs k).length = (k + 7) / 8 := by
  induction k with
  | zero => rfl
  | succ k ih =>
    simp only [wb, stepW]
    split <;> split <;> simp [ih] <;> omega

/-- The model's octets after the first k bits, N in all. -/
def mo (bs : List Bool) (N k : Nat) : List Int := wb bs k ++ List.replicate (N - (k + 7) / 8) 0

theorem mo_len (bs : List Bool) (N k : Nat) (h : (k + 7) / 8 ≤ N) : (mo bs N k).length = N := by
  simp [mo, wb_len]; omega

theorem mo_step (bs : List Bool) (N k : Nat) (h : k < 8 * N) :
    mo bs N (k + 1) = if bs.getD k false = true then (mo bs N k).set (k / 8) (orb ((mo bs N k).getD (k / 8) 0) (7 - k % 8)) else mo bs N k := by
  have hl := wb_len bs k
  unfold mo
  simp only [wb, stepW]
  by_cases hr : k % 8 = 0
  · rw [if_pos hr]
    have e1 : N - (k + 7) / 8 = (N - (k + 1 + 7) / 8) + 1 := by omega
    have e2 : (wb bs k).length = k / 8 := by omega
    rw [e1, List.replicate_succ]
    by_cases hb : bs.getD k false = true
    · rw [if_pos hb, if_pos hb, List.length_append, e2]
      simp [← e2]
    · rw [if_neg hb, if_neg hb]; simp
  · rw [if_neg hr]
    have e1 : N - (k + 7) / 8 = N - (k + 1 + 7) / 8 := by omega
    have e2 : (wb bs k).length - 1 = k / 8 := by omega
    have e3 : k / 8 < (wb bs k).length := by omega
    rw [e1, e2]
    by_cases hb : bs.getD k false = true
    · rw [if_pos hb, if_pos hb, List.set_append_left _ _ e3, List.getD, List.getD, List.getElem?_append_left e3]
    · rw [if_neg hb, if_neg hb]

/-- A slice of bools. -/
structure Sb (W : World) (ao : Option Addr) (c : Nat) (bs : List Bool) : Prop where
  le : bs.length ≤ c
  max : c ≤ maxLen
  cells : ∀ a, ao = some a → ∀ j, j < bs.length → W.cell? (a.add j) = some (.bool (bs.getD j false))
  nil : ao = none → c = 0

theorem Sb.later {W w : World} {ao : Option Addr} {c : Nat} {bs : List Bool} (h : Sb W ao c bs) (hb : Below W.heap.size W w) : Sb w ao c bs :=
  ⟨h.le, h.max, fun a ha j hj => cell_later hb (h.cells a ha j hj), h.nil⟩

theorem Sb.take {W : World} {ao : Option Addr} {c : Nat} {bs : List Bool} (h : Sb W ao c bs) (n : Nat) : Sb W ao c (bs.take n) := by
  refine ⟨by have := h.le; rw [List.length_take]; omega, h.max, fun a ha j hj => ?_, h.nil⟩
  rw [List.length_take] at hj
  have := h.cells a ha j (by omega)
  rw [this, List.getD, List.getD, List.getElem?_take, if_pos (by omega)]

theorem Sb.at {W : World} {ao : Option Addr} {c : Nat} {bs : List Bool} (h : Sb W ao c bs) (hp : 0 < bs.length) :
    ∃ b off, ao = some ⟨b, off, none⟩ ∧ ∀ j, j < bs.length → W.cell? ⟨b, off + j, none⟩ = some (.bool (bs.getD j false)) := by
  cases ao with
  | none => have := h.nil rfl; have := h.le; omega
  | some a =>
    obtain ⟨b, off, spot⟩ := a
    have hspot : spot = none := by simpa [Addr.add] using World.cell?_spot (h.cells _ rfl 0 hp)
    subst hspot
    exact ⟨b, off, rfl, fun j hj => by rw [← Go.WideShapes.add_plain]; exact h.cells _ rfl j hj⟩

theorem mo_end (bs : List Bool) (n : Nat) : mo bs ((n + 7) / 8) n = wb bs n := by simp [mo]

set_option maxRecDepth 100000 in
set_option maxHeartbeats 4000000 in
theorem model_any (w : World) (ao : Option Addr) (n c : Nat) (bs : List Bool) (aox : Option Addr) (nx cx : Nat) (xs : List Int) (hn : bs.length = n) (hn1 : n ≤ 64) (hs : Sb w ao c bs) (hnx : xs.length = nx) (hnx1 : nx ≤ 131072) (hx : Sl w aox cx xs) :
    Calls Yba.prog 17 #[.slice ao n c, .slice aox nx cx] w fun e w' => ∃ v', e = .returned v' ∧ w'.ownsRow w.heap.size 5 1 v' (wb bs n ++ encF 9 xs).length ((wb bs n ++ encF 9 xs).map (Value.int .u8)) ∧ Below w.heap.size w w' := by
  obtain ⟨i0, hi, hz0, hz1, hz2⟩ := info_parts info5
  obtain ⟨w1, hmk, hown, hgrow⟩ := run_make_full (P := Yba.prog) w w.heap.size 23 5 i0 (.int .u8 0) 1 Yba.underlying23 hi hz0 hz1 .i64 .i64 ((n + 7) / 8) (by rw [hz2]; omega) (by unfold maxLen; omega) (Nat.le_refl _)
  have ec : (((n + 7) / 8 : Nat) : Int) = ((n : Int) + 7) / 8 := by omega
  rw [ec] at hmk
  clear ec
  rw [show (Value.int .u8 0).cells = #[Value.int .u8 0] from rfl, toList_madeCells_one] at hown
  have HNX : Hid _ := hnx
  have HN : Hid _ := hn
  clear hn hnx
  go_enter Yba.func17, Yba.ntmps17
  go_wp2
  go_loopw [17] (fun i wr => ∃ k : Nat, k ≤ n ∧ i = .int .i64 (k : Int) ∧ wr.ownsRow w.heap.size 5 1 (.slice (some ⟨w.heap.size, 0, none⟩) ((n + 7) / 8) ((n + 7) / 8)) ((n + 7) / 8) ((mo bs ((n + 7) / 8) k).map (Value.int .u8)) ∧ Below w.heap.size w wr)
    (fun i _ => n - (intOf i).toNat)
  case atStart => exact ⟨0, Nat.zero_le _, rfl, by simpa [mo, wb] using hown, (Below.refl _ _).grown hgrow (Nat.le_refl _) (by simp)⟩
  case round =>
    obtain ⟨k, hk, rfl, howr, hbr⟩ := hrel
    clear hmk hown hgrow
    by_cases hlt : k < n
    · obtain ⟨b, off, hao, hcells⟩ := (hs.later hbr).at (by rw [HN.out]; omega)
      subst hao
      have hck := hcells k (by rw [HN.out]; omega)
      have hst := mo_step bs ((n + 7) / 8) k (by omega)
      have hlen := mo_len bs ((n + 7) / 8) k (by omega)
      by_cases hbv : bs.getD k false = true
      · rw [hbv] at hck
        have hco : wr.cell? ⟨w.heap.size, k / 8, none⟩ = some (.int .u8 ((mo bs ((n + 7) / 8) k).getD (k / 8) 0)) := by
          rw [howr.cellAt (k / 8) (by omega), List.getElem?_map, List.getD, List.getElem?_eq_getElem (by omega)]
          rfl
        have hfo := howr.frozenAt (k / 8)
        rw [if_pos hbv] at hst
        obtain ⟨ho1, ho2⟩ := howr.stored (k / 8) (.int .u8 (orb ((mo bs ((n + 7) / 8) k).getD (k / 8) 0) (7 - k % 8)))
        rw [← List.map_set, ← hst] at ho1
        have HO : Hid _ := ho1
        clear ho1 hst hcells hbv
        unfold orb at *
        generalize (mo bs ((n + 7) / 8) k).getD (k / 8) 0 = x at *
        go_wp2
        go_roundw
        case rel => exact ⟨k + 1, by omega, by go_num, HO.out, hbr.setCell (Nat.le_refl _) _⟩
        case measure => simp [intOf]; omega
      · rw [if_neg hbv] at hst
        have hbf : bs.getD k false = false := by simpa using hbv
        rw [hbf] at hck
        have HS : Hid _ := hst
        clear hst hcells hbv hbf
        go_wp2
        go_roundw
        case rel => exact ⟨k + 1, by omega, by go_num, by rw [HS.out]; exact howr, hbr⟩
        case measure => simp [intOf]; omega
    · obtain rfl : k = n := by omega
      rw [mo_end] at howr
      have hwl := wb_len bs k
      have hwl8 : (wb bs k).length ≤ 1000 := by omega
      have howr2 := howr
      rw [← hwl] at howr2
      clear hlt hs hwl
      go_wp2
      go_loopw [1, 5] (fun s v wr => ∃ (ao1 : Option Addr) (c1 m1 f : Nat) (xs1 l1 : List Int), s = .slice ao1 m1 c1 ∧ xs1.length = m1 ∧ Sl w ao1 c1 xs1 ∧ m1 < 16384 * f ∧ f ≤ 9 ∧ m1 ≤ 131072 ∧ l1.length + m1 + 2 * f ≤ 200000 ∧
          wr.ownsRow w.heap.size 5 1 v l1.length (l1.map (Value.int .u8)) ∧ Below w.heap.size w wr ∧ l1 ++ encF f xs1 = wb bs k ++ encF 9 xs)
        (fun s _ _ => sliceLen s)
      case atStart => exact ⟨aox, cx, nx, 9, xs, wb bs k, rfl, HNX.out, hx, by omega, by omega, by omega, by omega, by rw [wb_len]; exact howr, hbr, rfl⟩
      case round =>
        clear howr howr2 hbr
        obtain ⟨ao1, c1, m1, f, xs1, l1, rfl, hlen, hsl, hf, hf9, hm2, hbd, hown, hbr, hT⟩ := hrel
        obtain ⟨f', rfl⟩ : ∃ f', f = f' + 1 := ⟨f - 1, by omega⟩
        have HT : Hid _ := hT
        have HN1 : Hid _ := hlen
        clear hT hlen
        have hsz := hbr.size
        by_cases ha : m1 < 128
        · have hT := HT.out
          rw [enc_last f' xs1 (by rw [HN1.out]; omega), HN1.out, show lhead m1 = [(m1 : Int)] by simp [lhead]; omega] at hT
          have HT2 : Hid _ := hT
          clear hT
          have hxx : IntKind.u8.wrap (m1 : Int) = m1 := by rw [IntKind.wrap_u8']; omega
          go_wp2_with (at_builtin; refine wpList_append_own _ rfl (.tmp 40) (.tmp 43) 23 rfl w.heap.size 5 i0 (.int .u8 0) 1 1 Yba.underlying23 hi hz0 hz1 hz2 rfl (by decide) _ _ _ rfl (hown.alloc _) ⟨wr.heap.size, 0, none⟩ 1 1 [.int .u8 (m1 : Int)] rfl rfl ?c1 ?c2 ?c3 ?c4 ?c5 ?_)
          case c1 => exact cell_one_new _ _ _
          case c2 => intro u hu; simp at hu; subst hu; rfl
          case c3 => unfold maxLen; omega
          case c4 => omega
          case c5 => simp; omega
          intro v2 w2 hown2 hgrow2 _
          have hb2 : Below w.heap.size w w2 := (hbr.alloc hsz _).grown hgrow2 (by simp; omega) (fun k hk => (hown.lt k hk).1)
          have hsz2 := hb2.size
          clear hgrow2
          go_wp2_with (at_builtin; refine wpList_append_sl _ rfl (.tmp 45) (.tmp 46) 23 rfl w.heap.size 5 i0 (.int .u8 0) Yba.underlying23 hi hz0 hz1 hz2 rfl _ _ _ rfl hown2 ao1 m1 c1 xs1 rfl HN1.out (hsl.later hb2) (by omega) (by omega) ?_)
          intro v3 w3 hown3 hgrow3
          have hb3 : Below w.heap.size w w3 := hb2.grown hgrow3 (by omega) (fun k hk => (hown2.lt k hk).1)
          go_wp2
          go_ret
          refine ⟨v3, rfl, ?_, hb3⟩
          rw [← HT2.out]
          simpa [HN1.out, Nat.add_assoc, Nat.add_comm, Nat.add_left_comm] using hown3
        by_cases hb : m1 < 16384
        · have hT := HT.out
          rw [enc_last f' xs1 (by rw [HN1.out]; omega), HN1.out, show lhead m1 = [128 + (m1 : Int) / 256, (m1 : Int) % 256] by simp [lhead, ha, hb]] at hT
          have HT2 : Hid _ := hT
          clear hT
          have hor := Bt.i64_or_80 ((m1 : Int) / 256) (by omega) (by omega)
          have hx1 : IntKind.u8.wrap (128 + (m1 : Int) / 256) = 128 + (m1 : Int) / 256 := by rw [IntKind.wrap_u8']; omega
          have hx2 : IntKind.u8.wrap (m1 : Int) = (m1 : Int) % 256 := by rw [IntKind.wrap_u8']
          go_wp2_with (at_builtin; refine wpList_append_own _ rfl (.tmp 50) (.tmp 57) 23 rfl w.heap.size 5 i0 (.int .u8 0) 1 1 Yba.underlying23 hi hz0 hz1 hz2 rfl (by decide) _ _ _ rfl (hown.alloc _) ⟨wr.heap.size, 0, none⟩ 2 2 [.int .u8 (128 + (m1 : Int) / 256), .int .u8 ((m1 : Int) % 256)] rfl rfl ?c1 ?c2 ?c3 ?c4 ?c5 ?_)
          case c1 =>
            intro j u hj
            match j, hj with
            | 0, hj => simp at hj; subst hj; exact World.cell?_alloc_at _ _ _ _ rfl
            | 1, hj => simp at hj; subst hj; exact World.cell?_alloc_at _ _ _ _ rfl
          case c2 => intro u hu; simp at hu; rcases hu with rfl | rfl <;> rfl
          case c3 => unfold maxLen; omega
          case c4 => omega
          case c5 => simp; omega
          intro v2 w2 hown2 hgrow2 _
          have hb2 : Below w.heap.size w w2 := (hbr.alloc hsz _).grown hgrow2 (by simp; omega) (fun k hk => (hown.lt k hk).1)
          have hsz2 := hb2.size
          clear hgrow2
          go_wp2_with (at_builtin; refine wpList_append_sl _ rfl (.tmp 59) (.tmp 60) 23 rfl w.heap.size 5 i0 (.int .u8 0) Yba.underlying23 hi hz0 hz1 hz2 rfl _ _ _ rfl hown2 ao1 m1 c1 xs1 rfl HN1.out (hsl.later hb2) (by omega) (by omega) ?_)
          intro v3 w3 hown3 hgrow3
          have hb3 : Below w.heap.size w w3 := hb2.grown hgrow3 (by omega) (fun k hk => (hown2.lt k hk).1)
          go_wp2
          go_ret
          refine ⟨v3, rfl, ?_, hb3⟩
          rw [← HT2.out]
          simpa [HN1.out, Nat.add_assoc, Nat.add_comm, Nat.add_left_comm] using hown3
        have hT := HT.out
        rw [enc_more f' xs1 (by rw [HN1.out]; omega), HN1.out] at hT
        have HT2 : Hid _ := hT
        clear hT
        have hlc := lcnt_le m1
        have hlc2 : 16384 ≤ lcnt m1 := by unfold lcnt; rw [if_neg hb]; omega
        have hcm := hsl.le
        rw [HN1.out] at hcm
        have hsl' := hsl.drop (lcnt m1) (by rw [HN1.out]; omega)
        have hs1 := fun w => slice_to w ao1 m1 c1 (lcnt m1) (by omega)
        have hs2 := fun w => slice_from w ao1 m1 c1 (lcnt m1) (by omega)
        generalize (if c1 = lcnt m1 then ao1 else ao1.map (fun x => x.add (lcnt m1))) = ao2 at hs2 hsl'
        by_cases hc : m1 < 65536
        · have e1 : ((lcnt m1 : Nat) : Int) = (m1 : Int) / 16384 * 16384 := by simp only [lcnt]; rw [if_neg hb]; omega
          have e3 : lhead m1 = [192 + (m1 : Int) / 16384] := by simp only [lhead]; rw [if_neg ha, if_neg hb]; congr 2; omega
          have HE : Hid _ := e3
          have hor := Bt.i64_or_c0 ((m1 : Int) / 16384) (by omega) (by omega)
          have hx1 : IntKind.u8.wrap (192 + (m1 : Int) / 16384) = 192 + (m1 : Int) / 16384 := by rw [IntKind.wrap_u8']; omega
          rw [e1] at hs1 hs2
          clear e1 e3
          have hq : (m1 : Int) / 16384 < 4 := by omega
          go_wp2_with (at_builtin; refine wpList_append_own _ rfl (.tmp 66) (.tmp 70) 23 rfl w.heap.size 5 i0 (.int .u8 0) 1 1 Yba.underlying23 hi hz0 hz1 hz2 rfl (by decide) _ _ _ rfl (hown.alloc _) ⟨wr.heap.size, 0, none⟩ 1 1 [.int .u8 (192 + (m1 : Int) / 16384)] rfl rfl ?c1 ?c2 ?c3 ?c4 ?c5 ?_)
          case c1 => exact cell_one_new _ _ _
          case c2 => intro u hu; simp at hu; subst hu; rfl
          case c3 => unfold maxLen; omega
          case c4 => omega
          case c5 => simp; omega
          intro v2 w2 hown2 hgrow2 _
          have hb2 : Below w.heap.size w w2 := (hbr.alloc hsz _).grown hgrow2 (by simp; omega) (fun k hk => (hown.lt k hk).1)
          have hsz2 := hb2.size
          clear hgrow2
          go_wp2_with (at_builtin; refine wpList_append_sl _ rfl (.tmp 72) (.tmp 76) 23 rfl w.heap.size 5 i0 (.int .u8 0) Yba.underlying23 hi hz0 hz1 hz2 rfl _ _ _ rfl hown2 ao1 (lcnt m1) c1 (xs1.take (lcnt m1)) rfl (by rw [List.length_take, HN1.out]; omega) ((hsl.take _).later hb2) (by omega) (by omega) ?_)
          intro v3 w3 hown3 hgrow3
          have hb3 : Below w.heap.size w w3 := hb2.grown hgrow3 (by omega) (fun k hk => (hown2.lt k hk).1)
          have hown4 : w3.ownsRow w.heap.size 5 1 v3 (l1 ++ lhead m1 ++ xs1.take (lcnt m1)).length ((l1 ++ lhead m1 ++ xs1.take (lcnt m1)).map (Value.int .u8)) := by
            have : (l1 ++ lhead m1 ++ xs1.take (lcnt m1)).length = l1.length + 1 + lcnt m1 := by rw [HE.out]; simp; rw [HN1.out]; omega
            rw [this]
            rw [HE.out]
            simpa using hown3
          clear hown3 hgrow3 hown2
          go_wp2
          go_roundw
          case rel =>
            refine ⟨ao2, c1 - lcnt m1, m1 - lcnt m1, f', xs1.drop (lcnt m1), _, rfl, by rw [List.length_drop, HN1.out], hsl', by omega, by omega, by omega, ?_, hown4, hb3, ?_⟩
            · have := lhead_len m1; simp; rw [HN1.out]; omega
            · rw [← HT2.out]; simp
          case measure => simp [sliceLen]; omega
        · have e1 : ((lcnt m1 : Nat) : Int) = 65536 := by simp only [lcnt]; rw [if_neg hb]; omega
          have e3 : lhead m1 = [196] := by simp only [lhead]; rw [if_neg ha, if_neg hb]; congr 1; omega
          have HE : Hid _ := e3
          have hor : bits .or .i64 192 4 = 196 := by decide
          rw [e1] at hs1 hs2
          clear e1 e3
          have hq : 4 ≤ (m1 : Int) / 16384 := by omega
          rcases (by omega : 4 < (m1 : Int) / 16384 ∨ (m1 : Int) / 16384 = 4) with h4 | h4
          all_goals
            go_wp2_with (at_builtin; refine wpList_append_own _ rfl (.tmp 66) (.tmp 70) 23 rfl w.heap.size 5 i0 (.int .u8 0) 1 1 Yba.underlying23 hi hz0 hz1 hz2 rfl (by decide) _ _ _ rfl (hown.alloc _) ⟨wr.heap.size, 0, none⟩ 1 1 [.int .u8 196] rfl rfl ?c1 ?c2 ?c3 ?c4 ?c5 ?_)
            case c1 => exact cell_one_new _ _ _
            case c2 => intro u hu; simp at hu; subst hu; rfl
            case c3 => unfold maxLen; omega
            case c4 => omega
            case c5 => simp; omega
            intro v2 w2 hown2 hgrow2 _
            have hb2 : Below w.heap.size w w2 := (hbr.alloc hsz _).grown hgrow2 (by simp; omega) (fun k hk => (hown.lt k hk).1)
            have hsz2 := hb2.size
            clear hgrow2
            go_wp2_with (at_builtin; refine wpList_append_sl _ rfl (.tmp 72) (.tmp 76) 23 rfl w.heap.size 5 i0 (.int .u8 0) Yba.underlying23 hi hz0 hz1 hz2 rfl _ _ _ rfl hown2 ao1 (lcnt m1) c1 (xs1.take (lcnt m1)) rfl (by rw [List.length_take, HN1.out]; omega) ((hsl.take _).later hb2) (by omega) (by omega) ?_)
            intro v3 w3 hown3 hgrow3
            have hb3 : Below w.heap.size w w3 := hb2.grown hgrow3 (by omega) (fun k hk => (hown2.lt k hk).1)
            have hown4 : w3.ownsRow w.heap.size 5 1 v3 (l1 ++ lhead m1 ++ xs1.take (lcnt m1)).length ((l1 ++ lhead m1 ++ xs1.take (lcnt m1)).map (Value.int .u8)) := by
              have : (l1 ++ lhead m1 ++ xs1.take (lcnt m1)).length = l1.length + 1 + lcnt m1 := by rw [HE.out]; simp; rw [HN1.out]; omega
              rw [this]
              rw [HE.out]
              simpa using hown3
            clear hown3 hgrow3 hown2
            go_wp2
            go_roundw
            case rel =>
              refine ⟨ao2, c1 - lcnt m1, m1 - lcnt m1, f', xs1.drop (lcnt m1), _, rfl, by rw [List.length_drop, HN1.out], hsl', by omega, by omega, by omega, ?_, hown4, hb3, ?_⟩
              · have := lhead_len m1; simp; rw [HN1.out]; omega
              · rw [← HT2.out]; simp
            case measure => simp [sliceLen]; omega

end Go.Proofs.Ybulkstg.Buf
