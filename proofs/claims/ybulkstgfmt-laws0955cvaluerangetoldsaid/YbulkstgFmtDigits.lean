import Derived.Test.YbulkstgFmtTok
namespace Go.Proofs.YbulkstgFmt.Tk
open Go Go.RowKit

theorem info5 : (Ybaf.prog.info? 5).map (fun i => (i.zero, i.size, i.bytes)) = some (some (.int .u8 0), 1, 1) := by kernel_rfl

/-- The value v reads as the octets xs in W. -/
structure Sl (W : World) (ao : Option Addr) (c : Nat) (xs : List Int) : Prop where
  le : xs.length ≤ c
  max : c ≤ maxLen
  nil : ao = none → c = 0
  cells : ∀ a, ao = some a → ∀ j u, (xs.map (Value.int .u8))[j]? = some u → W.cell? (a.add j) = some u

/-- append(v, x...) onto a row of the call's own, x whatever slice. -/
theorem wpList_append_sl {P : Program} (w : World) {ops : Array Oper} {rest : List Oper} {o : Oper} {a : Act} {Q : Exit → Act → World → Prop} (hgd : o.guard = none) (s x : Operand) (t : TypeId)
    (ho : o.op = .call { callee := .builtin .append, args := #[s, x], argTypes := #[t, t] })
    (base : Nat) (e : TypeId) (i : TypeInfo) (z : Value) (ht : P.underlying t = some (.slice e)) (hi : P.info? e = some i) (hz : i.zero = some z)
    (hsize : i.size = 1) (hby : i.bytes = 1) (hzs : z.cells.size = 1)
    (v : Value) (n : Nat) (xs : List Value) (hs : a.eval s = v) (hown : w.ownsRow base e 1 v n xs)
    (ao : Option Addr) (m c : Nat) (ys : List Int) (hx : a.eval x = .slice ao m c) (hl : ys.length = m) (hsl : Sl w ao c ys)
    (hb : n + m ≤ 140737488355328) (hbase : base ≤ w.heap.size)
    (h : ∀ v' w', w'.ownsRow base e 1 v' (n + m) (xs ++ ys.map (Value.int .u8)) → w.grownBy w' v.ownBlock → wpList P ops Q rest (a.put o.dst v') w') : wpList P ops Q (o :: rest) a w := by
  cases ao with
  | some ad =>
    exact wpList_append_own w hgd s x t ho base e i z 1 1 ht hi hz hsize hby hzs (by decide) v n xs hs hown ad m c (ys.map (Value.int .u8)) hx (by simp [hl]) (hsl.cells ad rfl) (ints_oneCell _ _) (by unfold maxLen; omega) (by omega) hbase (fun v' w' h1 h2 _ => h v' w' h1 h2)
  | none =>
    have hc := hsl.nil rfl
    have hle := hsl.le
    obtain rfl : c = 0 := hc
    obtain rfl : m = 0 := by omega
    have hys : ys = [] := List.eq_nil_of_length_eq_zero hl
    subst hys
    refine wpList_plain hgd fun K hK' => ?_
    have hrun := run_append_owned_none (P := P) w base t o.type e i 1 ht hi _ n xs hown
    unfold Oper.wp
    simp [execOp, ho, resolve, invoke, builtin, hs, hx, hrun, Result.andThen]
    exact hK' _ _ (by simpa using h v w (by simpa using hown) (World.grownBy.refl _ _))

theorem Sl.ofOwn {w : World} {base : Nat} {v : Value} {xs : List Int} (h : w.ownsRow base 5 1 v xs.length (xs.map (Value.int .u8))) : ∃ ao c, v = .slice ao xs.length c ∧ Sl w ao c xs := by
  rcases h.2 with ⟨h1, h2⟩ | ⟨g, cap, cur, rfl, hb, hg, hle, hmax, hcs, htk⟩
  · have hx : xs = [] := List.eq_nil_of_length_eq_zero h2
    subst hx
    exact ⟨none, 0, h1, by simp, by simp [maxLen], fun _ => rfl, fun a ha => by cases ha⟩
  · exact ⟨_, cap, rfl, hle, hmax, fun ha => (by cases ha), fun a ha j u hj => by
      simp at ha; subst ha
      exact h.cells (g := g) rfl j u hj⟩

theorem Sl.at {W : World} {ao : Option Addr} {c : Nat} {xs : List Int} (h : Sl W ao c xs) (hp : 0 < xs.length) :
    ∃ b off, ao = some ⟨b, off, none⟩ ∧ ∀ j, j < xs.length → W.cell? ⟨b, off + j, none⟩ = some (.int .u8 (xs.getD j 0)) := by
  cases ao with
  | none => have := h.nil rfl; have := h.le; omega
  | some a =>
    have hc : ∀ j, j < xs.length → W.cell? (a.add j) = some (.int .u8 (xs.getD j 0)) := fun j hj => h.cells a rfl j _ (by
      rw [List.getElem?_map, List.getD, List.getElem?_eq_getElem hj]; rfl)
    obtain ⟨b, off, spot⟩ := a
    have hspot : spot = none := by simpa [Addr.add] using World.cell?_spot (hc 0 hp)
    subst hspot
    exact ⟨b, off, rfl, fun j hj => by rw [← Go.WideShapes.add_plain]; exact hc j hj⟩


theorem Sl.grown {w w1 : World} {ao : Option Addr} {c : Nat} {xs : List Int} (h : Sl w ao c xs) (k : w.grownBy w1 none) : Sl w1 ao c xs :=
  ⟨h.le, h.max, h.nil, fun a ha j u hj => k.cell (h.cells a ha j u hj) (by simp)⟩

set_option maxHeartbeats 1000000 in
theorem digits_pos (w : World) (N : Nat) (h0 : 0 < N) (hN : N < 4294967296) :
    Calls Ybaf.prog 10 #[.int .u32 (N : Int)] w fun e w' => ∃ s : ByteArray, e = .returned (.string s) ∧ 0 < s.data.toList.length ∧ (∀ x ∈ s.data.toList, 48 ≤ x.toNat ∧ x.toNat ≤ 57) ∧ w.grownBy w' none := by
  obtain ⟨i0, hi, hz0, hz1, hz2⟩ := info_parts info5
  have hn0 : ((N : Int) == 0) = false := by simp; omega
  go_enter Ybaf.func10, Ybaf.ntmps10
  go_wp2
  go_loopw [0, 3] (fun n b wr => ∃ (m : Nat) (ds : List Int), m ≤ N ∧ n = .int .u32 (m : Int) ∧ (m = 0 → 0 < ds.length) ∧ ds.length + m ≤ N ∧ (∀ x ∈ ds, 48 ≤ x ∧ x ≤ 57) ∧ wr.ownsRow w.heap.size 5 1 b ds.length (ds.map (Value.int .u8)) ∧ w.grownBy wr none) (fun n _ _ => (intOf n).toNat)
  case atStart => exact ⟨N, [], Nat.le_refl _, rfl, by omega, by simp, by simp, World.ownsRow_nil _ _ _ _, grown_refl _ _⟩
  case round =>
    obtain ⟨m, ds, hm, rfl, hm0, hdl, hds, hown, hg⟩ := hrel
    obtain ⟨ao, cb, hv, hsl⟩ := Sl.ofOwn hown
    subst hv
    have hsz := hg.size
    by_cases hlt : 0 < m
    · have HD : Hid _ := hds
      clear hds hm0
      have hx : IntKind.u8.wrap (48 + (m : Int) % 10) = 48 + (m : Int) % 10 := by rw [IntKind.wrap_u8']; omega
      have hlit : (wr.alloc (.cells #[.int .u8 (48 + (m : Int) % 10)] 5)).ownsRow w.heap.size 5 1 (.slice (some ⟨wr.heap.size, 0, none⟩) 1 1) 1 #[Value.int .u8 (48 + (m : Int) % 10)].toList := World.ownsRow_lit _ _ _ hsz (by decide) rfl
      go_wp2_with (at_builtin; refine wpList_append_sl _ rfl (.tmp 12) (.tmp 13) 22 rfl w.heap.size 5 i0 (.int .u8 0) Ybaf.underlying22 hi hz0 hz1 hz2 rfl _ _ _ rfl hlit ao ds.length cb ds rfl rfl (hsl.grown (World.grownBy_alloc _ _ _)) (by omega) (by simp; omega) ?_)
      intro v' w2 hown2 hgr
      have hg2 : w.grownBy w2 none := by
        refine grown_trans hg ⟨hgr.os, hgr.tape, hgr.output, by have := hgr.size; simp at this; omega, fun b hb _ => ?_⟩
        rw [hgr.block b (by simp; omega) (by simp [Value.ownBlock]; omega), Below.heap_alloc _ _ _ hb]
      have hown3 : w2.ownsRow w.heap.size 5 1 v' ((48 + (m : Int) % 10) :: ds).length (((48 + (m : Int) % 10) :: ds).map (Value.int .u8)) := by
        rw [List.length_cons, Nat.add_comm]
        exact hown2
      clear hown2 hgr hlit
      go_wp2
      go_roundw
      case rel =>
        refine ⟨m / 10, (48 + (m : Int) % 10) :: ds, by omega, by go_num, by simp, by rw [List.length_cons]; omega, ?_, hown3, hg2⟩
        intro x hx
        rcases List.mem_cons.1 hx with rfl | hx
        · omega
        · exact HD.out x hx
      case measure => simp [intOf]; omega
    · have hpos := hm0 (by omega)
      obtain ⟨b, off, hao, hcells⟩ := hsl.at hpos
      subst hao
      have hcv := run_convert_bytes_arg (P := Ybaf.prog) wr 22 5 Ybaf.underlying22 Ybaf.underlying5 b off ds.length cb ds rfl hcells 9 Ybaf.underlying9
      have HD : Hid _ := hds
      clear hcells hds
      go_wp2
      go_ret
      refine ⟨_, rfl, ?_, ?_, hg⟩
      · simpa [strOfNums] using hpos
      · intro x hx
        simp [strOfNums] at hx
        obtain ⟨a, ha, rfl⟩ := hx
        have := HD.out a ha
        simp
        omega

set_option maxHeartbeats 1000000 in
theorem digits_any (w : World) (N : Int) (h0 : 0 ≤ N) (hN : N < 4294967296) :
    Calls Ybaf.prog 10 #[.int .u32 N] w fun e w' => ∃ s : ByteArray, e = .returned (.string s) ∧ 0 < s.data.toList.length ∧ (∀ x ∈ s.data.toList, 48 ≤ x.toNat ∧ x.toNat ≤ 57) ∧ w.grownBy w' none := by
  obtain ⟨N, rfl⟩ := Int.eq_ofNat_of_zero_le h0
  by_cases hz : 0 < N
  · exact digits_pos w N hz (by omega)
  · obtain rfl : N = 0 := by omega
    go_enter Ybaf.func10, Ybaf.ntmps10
    go_wp2
    go_ret
    exact ⟨_, rfl, by decide, by decide, grown_refl _ _⟩

end Go.Proofs.YbulkstgFmt.Tk
