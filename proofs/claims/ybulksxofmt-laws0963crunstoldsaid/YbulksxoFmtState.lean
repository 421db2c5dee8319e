import Derived.Test.YbulksxoFmtTyp
namespace Go.Proofs.YbulksxoFmt.Bx
open Go Go.RowKit

theorem own_of {w w' : World} {B n g c : Nat} {xs : List Value} (h : w.ownsRow B 5 1 (.slice (some ⟨g, 0, none⟩) n c) n xs) (e : w'.heap[g]? = w.heap[g]?) : w'.ownsRow B 5 1 (.slice (some ⟨g, 0, none⟩) n c) n xs := by
  refine ⟨h.1, ?_⟩
  rcases h.2 with ⟨h0, _⟩ | ⟨g', cap, cur, he, hb, hg, rest⟩
  · cases h0
  · cases he
    exact Or.inr ⟨g, c, cur, rfl, hb, e.trans hg, rest⟩

/-- What a box holds. -/
structure Bxd where
  g : Nat
  c : Nat
  N : Nat
  hd : List Value
  L : List Nat
def upd (X : Nat → Bxd) (o : Nat) (x : Bxd) : Nat → Bxd := fun p => if p = o then x else X p
theorem upd_same (X : Nat → Bxd) (o : Nat) (x : Bxd) : upd X o x o = x := by simp [upd]
theorem upd_other (X : Nat → Bxd) (o p : Nat) (x : Bxd) (h : p ≠ o) : upd X o x p = X p := by simp [upd, h]
def updv (f : Nat → Value) (o : Nat) (x : Value) : Nat → Value := fun p => if p = o then x else f p
theorem updv_same (f : Nat → Value) (o : Nat) (x : Value) : updv f o x o = x := by simp [updv]
theorem updv_other (f : Nat → Value) (o p : Nat) (x : Value) (h : p ≠ o) : updv f o x p = f p := by simp [updv, h]
/-- Numbers an entry, bytes ahead of the entries. -/
def kOf (o : Nat) : Nat := if o = 16 then 1 else if o = 20 then 3 else if o = 24 then 1 else 2
def hOf (o : Nat) : Nat := if o = 16 then 20 else 16
/-- The builder's own cells that are read. -/
def Sp (p : Nat) : Prop := p < 4 ∨ p = 12 ∨ p = 28 ∨ p = 29 ∨ p = 30
def Ofs (o : Nat) : Prop := o = 4 ∨ o = 8 ∨ o = 16 ∨ o = 20 ∨ o = 24
theorem hOf_le (o : Nat) : hOf o ≤ 20 := by unfold hOf; split <;> omega

/-- What stays where the builder b works: all blocks but b and the rows. -/
structure Kp (w w' : World) (B b : Nat) : Prop where
  os : w'.os = w.os
  tape : w'.tape = w.tape
  output : w'.output = w.output
  size : w.heap.size ≤ w'.heap.size
  block : ∀ k, k < w.heap.size → k ≠ b → (k < B ∨ Kt w k) → w'.heap[k]? = w.heap[k]?
theorem Kp.refl (w : World) (B b : Nat) : Kp w w B b := ⟨rfl, rfl, rfl, Nat.le_refl _, fun _ _ _ _ => rfl⟩
theorem Kp.trans {w w1 w2 : World} {B b : Nat} (h : Kp w w1 B b) (k : Kp w1 w2 B b) : Kp w w2 B b :=
  ⟨k.os.trans h.os, k.tape.trans h.tape, k.output.trans h.output, Nat.le_trans h.size k.size, fun j hj hb hc => by
    have e := h.block j hj hb hc
    exact (k.block j (Nat.lt_of_lt_of_le hj h.size) hb (hc.imp id (fun hk => hk.of e))).trans e⟩
theorem Kp.grown {w w' : World} (B b : Nat) (h : w.grownBy w' none) : Kp w w' B b := ⟨h.os, h.tape, h.output, h.size, fun k hk _ _ => h.block k hk (by simp)⟩
theorem Kp.set (w : World) (B b p : Nat) (v : Value) : Kp w (w.setCell ⟨b, p, none⟩ v) B b := ⟨rfl, rfl, rfl, by rw [World.size_setCell]; exact Nat.le_refl _, fun k _ hb _ => Below.heap_setCell _ _ _ _ (by exact hb)⟩
theorem Kp.drew {w w1 : World} {B b : Nat} (h : Kp w w1 B b) : Kp w w1.drew B b := ⟨h.os, h.tape, h.output, h.size, h.block⟩
theorem Kp.bk {w w' : World} {B b o k g c N : Nat} {hd : List Value} {L : List Nat} (h : Bk w w' b o (some g)) (e : Ebx w B b o k g c N hd L) : Kp w w' B b :=
  ⟨h.os, h.tape, h.output, h.size, fun j hj hb hc => h.block j hj hb (by
    rcases hc with h1 | h1
    · have := (e.row.lt g rfl).1
      intro q; cases q; omega
    · exact h1.ne e.row)⟩
theorem Kp.cell {w w' : World} {B b : Nat} (h : Kp w w' B b) {a : Addr} {v : Value} (hc : w.cell? a = some v) (hb : a.block ≠ b) (hk : a.block < B ∨ Kt w a.block) : w'.cell? a = some v :=
  (World.cell?_of_block (h.block a.block (World.block_lt_of_cell? w _ hc) hb hk)).trans hc

/-- The builder's state: the boxes O that are made. -/
structure Bs (w : World) (B b : Nat) (O : List Nat) (X : Nat → Bxd) (f : Nat → Value) : Prop where
  kt : Kt w b
  fz : ∀ j, w.frozen? ⟨b, j, none⟩ = false
  hB : B ≤ w.heap.size
  bB : B ≤ b
  sc : ∀ p, Sp p → w.cell? ⟨b, p, none⟩ = some (f p)
  all : ∀ p, p < 31 → ∃ v, w.cell? ⟨b, p, none⟩ = some v
  bx : ∀ o ∈ O, Ebx w B b o (kOf o) (X o).g (X o).c (X o).N (X o).hd (X o).L
  e1 : ∀ o ∈ O, w.cell? ⟨b, o + 1, none⟩ = some (.int .i64 ((hOf o : Nat) : Int))
  e2 : ∀ o ∈ O, w.cell? ⟨b, o + 2, none⟩ = some (.int .i64 ((4 * kOf o : Nat) : Int))
  hl : ∀ o ∈ O, (X o).hd.length = hOf o
  sep : ∀ o ∈ O, ∀ o' ∈ O, o ≠ o' → (X o).g ≠ (X o').g
  ofs : ∀ o ∈ O, Ofs o

theorem Ebx.glt {w : World} {B b o k g c N : Nat} {hd : List Value} {L : List Nat} (h : Ebx w B b o k g c N hd L) : B ≤ g ∧ g < w.heap.size := h.row.lt g rfl
theorem Ebx.cap {w : World} {B b o k g c N : Nat} {hd : List Value} {L : List Nat} (h : Ebx w B b o k g c N hd L) : hd.length + 4 * L.length ≤ c := by
  rcases h.row.2 with ⟨h0, _⟩ | ⟨g', cap, cur, he, hb, hg, hc, _⟩
  · cases h0
  · cases he; exact hc
theorem Ebx.later {w w' : World} {B b o k g c N : Nat} {hd : List Value} {L : List Nat} (h : Ebx w B b o k g c N hd L) (hg : w.grownBy w' none) : Ebx w' B b o k g c N hd L :=
  ⟨hg.cell h.e0 (by simp), hg.cell h.e3 (by simp), own_of h.row (hg.block g h.glt.2 (by simp)), h.len, h.bd⟩

theorem Bs.grown {w w' : World} {B b : Nat} {O : List Nat} {X : Nat → Bxd} {f : Nat → Value} (h : Bs w B b O X f) (hg : w.grownBy w' none) : Bs w' B b O X f := by
  have e := hg.block b h.kt.lt (by simp)
  refine ⟨h.kt.of e, fun j => (World.frozen?_of_block e).trans (h.fz j), Nat.le_trans h.hB hg.size, h.bB, fun p hp => hg.cell (h.sc p hp) (by simp), fun p hp => ?_, fun o ho => (h.bx o ho).later hg, fun o ho => hg.cell (h.e1 o ho) (by simp), fun o ho => hg.cell (h.e2 o ho) (by simp), h.hl, h.sep, h.ofs⟩
  obtain ⟨v, hv⟩ := h.all p hp
  exact ⟨v, hg.cell hv (by simp)⟩

theorem Bs.set {w : World} {B b : Nat} {O : List Nat} {X : Nat → Bxd} {f : Nat → Value} (h : Bs w B b O X f) (p : Nat) (hp : Sp p) (v : Value) : Bs (w.setCell ⟨b, p, none⟩ v) B b O X (updv f p v) := by
  have hoth : ∀ q u, q ≠ p → w.cell? ⟨b, q, none⟩ = some u → (w.setCell ⟨b, p, none⟩ v).cell? ⟨b, q, none⟩ = some u := fun q u hq hc => (World.cell?_setCell_other _ _ _ _ (fun e => by cases e; exact hq rfl)).trans hc
  have hne : ∀ o ∈ O, o ≠ p ∧ o + 1 ≠ p ∧ o + 2 ≠ p ∧ o + 3 ≠ p := fun o ho => by
    have h1 := h.ofs o ho
    unfold Ofs at h1
    unfold Sp at hp
    omega
  refine ⟨h.kt.set _ _, fun j => by rw [World.frozen?_setCell]; exact h.fz j, by rw [World.size_setCell]; exact h.hB, h.bB, fun q hq => ?_, fun q hq => ?_, fun o ho => ⟨hoth _ _ (hne o ho).1 (h.bx o ho).e0, hoth _ _ (hne o ho).2.2.2 (h.bx o ho).e3, own_set (h.bx o ho).row _ _ (h.kt.ne (h.bx o ho).row), (h.bx o ho).len, (h.bx o ho).bd⟩, fun o ho => hoth _ _ (hne o ho).2.1 (h.e1 o ho), fun o ho => hoth _ _ (hne o ho).2.2.1 (h.e2 o ho), h.hl, h.sep, h.ofs⟩
  · by_cases e : q = p
    · subst e
      rw [updv_same]
      exact World.cell?_setCell_same _ _ _ (h.sc q hq)
    · rw [updv_other _ _ _ _ e]
      exact hoth q _ e (h.sc q hq)
  · obtain ⟨u, hu⟩ := h.all q hq
    by_cases e : q = p
    · subst e
      exact ⟨_, World.cell?_setCell_same _ _ _ hu⟩
    · exact ⟨u, hoth q u e hu⟩

theorem Bs.step {w w' : World} {B b : Nat} {O : List Nat} {X : Nat → Bxd} {f : Nat → Value} (h : Bs w B b O X f) (o : Nat) (ho : o ∈ O) (k : Bk w w' b o (some (X o).g)) (x : Bxd) (e : Ebx w' B b o (kOf o) x.g x.c x.N x.hd x.L) (hx : x.hd = (X o).hd) (hg : x.g = (X o).g ∨ w.heap.size ≤ x.g) : Bs w' B b O (upd X o x) f := by
  have hoo := h.ofs o ho
  have hapart : ∀ o' ∈ O, o' ≠ o → (o' ≠ o ∧ o' ≠ o + 3 ∧ o' + 3 ≠ o ∧ o' + 3 ≠ o + 3) := fun o' ho' hne => by
    have h1 := h.ofs o' ho'
    unfold Ofs at h1 hoo
    omega
  have hmid : ∀ o' ∈ O, (o' + 1 ≠ o ∧ o' + 1 ≠ o + 3) ∧ (o' + 2 ≠ o ∧ o' + 2 ≠ o + 3) := fun o' ho' => by
    have h1 := h.ofs o' ho'
    unfold Ofs at h1 hoo
    omega
  refine ⟨k.kt h.kt, k.fz h.fz, Nat.le_trans h.hB k.size, h.bB, fun p hp => ?_, fun p hp => ?_, fun o' ho' => ?_, fun o' ho' => k.cells _ _ (hmid o' ho').1.1 (hmid o' ho').1.2 (h.e1 o' ho'), fun o' ho' => k.cells _ _ (hmid o' ho').2.1 (hmid o' ho').2.2 (h.e2 o' ho'), fun o' ho' => ?_, fun o' ho' o'' ho'' hne => ?_, h.ofs⟩
  · have : p ≠ o ∧ p ≠ o + 3 := by unfold Ofs at hoo; unfold Sp at hp; omega
    exact k.cells p _ this.1 this.2 (h.sc p hp)
  · by_cases h1 : p = o
    · subst h1; exact ⟨_, e.e0⟩
    · by_cases h2 : p = o + 3
      · subst h2; exact ⟨_, e.e3⟩
      · obtain ⟨u, hu⟩ := h.all p hp
        exact ⟨u, k.cells p u h1 h2 hu⟩
  · by_cases h1 : o' = o
    · subst h1; rw [upd_same]; exact e
    · rw [upd_other _ _ _ _ h1]
      have hb := h.bx o' ho'
      have ha := hapart o' ho' h1
      refine ⟨k.cells _ _ ha.1 ha.2.1 hb.e0, k.cells _ _ ha.2.2.1 ha.2.2.2 hb.e3, own_of hb.row (k.block _ hb.glt.2 ?_ ?_), hb.len, hb.bd⟩
      · intro q
        have := h.kt.ne hb.row
        simp [Value.ownBlock] at this
        exact this q.symm
      · intro q
        exact h.sep o' ho' o ho h1 (Option.some.inj q)
  · by_cases h1 : o' = o
    · subst h1; rw [upd_same, hx]; exact h.hl _ ho'
    · rw [upd_other _ _ _ _ h1]; exact h.hl _ ho'
  · by_cases h1 : o' = o
    · subst h1
      rw [upd_same, upd_other _ _ _ _ (Ne.symm hne)]
      have h2 := h.sep _ ho' _ ho'' hne
      have h3 := (h.bx o'' ho'').glt.2
      omega
    · by_cases h4 : o'' = o
      · subst h4
        rw [upd_same, upd_other _ _ _ _ h1]
        have h2 := h.sep _ ho' _ ho'' hne
        have h3 := (h.bx o' ho').glt.2
        omega
      · rw [upd_other _ _ _ _ h1, upd_other _ _ _ _ h4]
        exact h.sep _ ho' _ ho'' hne

theorem Bs.new {w w1 : World} {B b : Nat} {O : List Nat} {X : Nat → Bxd} {f : Nat → Value} (h : Bs w B b O X f) (o : Nat) (ho : o ∉ O) (hoo : Ofs o) (hg : w.grownBy w1 none) (g n : Nat) (hd : List Value) (hn : n = hOf o) (hgn : w.heap.size ≤ g) (hrow : w1.ownsRow B 5 1 (.slice (some ⟨g, 0, none⟩) n n) n hd) (y1 y2 : Int) (hy1 : y1 = (hOf o : Nat)) (hy2 : y2 = (4 * kOf o : Nat)) :
    Bs ((((w1.setCell ⟨b, o, none⟩ (.slice (some ⟨g, 0, none⟩) n n)).setCell ⟨b, o + 1, none⟩ (.int .i64 y1)).setCell ⟨b, o + 2, none⟩ (.int .i64 y2)).setCell ⟨b, o + 3, none⟩ (.int .u32 0)) B b (o :: O) (upd X o ⟨g, n, 0, hd, []⟩) f := by
  subst hn hy1 hy2
  have h1 := h.grown hg
  have hlen : hd.length = hOf o := by have := hrow.1; omega
  have hgb := h1.kt.ne hrow
  generalize hv0 : Value.slice (some ⟨g, 0, none⟩) (hOf o) (hOf o) = v0 at *
  generalize hv1 : Value.int .i64 ((hOf o : Nat) : Int) = v1 at *
  generalize hv2 : Value.int .i64 ((4 * kOf o : Nat) : Int) = v2 at *
  generalize hv3 : Value.int .u32 0 = v3 at *
  have hex : ∀ j, j < 4 → ∃ u, w1.cell? ⟨b, o + j, none⟩ = some u := fun j hj => h1.all (o + j) (by unfold Ofs at hoo; omega)
  obtain ⟨u0, c0⟩ := hex 0 (by decide)
  obtain ⟨u1, c1⟩ := hex 1 (by decide)
  obtain ⟨u2, c2⟩ := hex 2 (by decide)
  obtain ⟨u3, c3⟩ := hex 3 (by decide)
  generalize hw : ((((w1.setCell ⟨b, o, none⟩ v0).setCell ⟨b, o + 1, none⟩ v1).setCell ⟨b, o + 2, none⟩ v2).setCell ⟨b, o + 3, none⟩ v3) = w2
  have hoth : ∀ q u, q ≠ o → q ≠ o + 1 → q ≠ o + 2 → q ≠ o + 3 → w1.cell? ⟨b, q, none⟩ = some u → w2.cell? ⟨b, q, none⟩ = some u := fun q u q0 q1 q2 q3 hc => by
    rw [← hw]
    exact (World.cell?_setCell_other _ _ _ _ (fun e => by cases e; omega)).trans ((World.cell?_setCell_other _ _ _ _ (fun e => by cases e; omega)).trans ((World.cell?_setCell_other _ _ _ _ (fun e => by cases e; omega)).trans ((World.cell?_setCell_other _ _ _ _ (fun e => by cases e; omega)).trans hc)))
  have k0 : w2.cell? ⟨b, o, none⟩ = some v0 := by
    rw [← hw]
    exact (World.cell?_setCell_other _ _ _ _ (by simp)).trans ((World.cell?_setCell_other _ _ _ _ (by simp)).trans ((World.cell?_setCell_other _ _ _ _ (by simp)).trans (World.cell?_setCell_same _ _ _ c0)))
  have k1 : w2.cell? ⟨b, o + 1, none⟩ = some v1 := by
    rw [← hw]
    exact (World.cell?_setCell_other _ _ _ _ (by simp)).trans ((World.cell?_setCell_other _ _ _ _ (by simp)).trans (World.cell?_setCell_same _ _ _ ((World.cell?_setCell_other _ _ _ _ (by simp)).trans c1)))
  have k2 : w2.cell? ⟨b, o + 2, none⟩ = some v2 := by
    rw [← hw]
    exact (World.cell?_setCell_other _ _ _ _ (by simp)).trans (World.cell?_setCell_same _ _ _ ((World.cell?_setCell_other _ _ _ _ (by simp)).trans ((World.cell?_setCell_other _ _ _ _ (by simp)).trans c2)))
  have k3 : w2.cell? ⟨b, o + 3, none⟩ = some v3 := by
    rw [← hw]
    exact World.cell?_setCell_same _ _ _ ((World.cell?_setCell_other _ _ _ _ (by simp)).trans ((World.cell?_setCell_other _ _ _ _ (by simp)).trans ((World.cell?_setCell_other _ _ _ _ (by simp)).trans c3)))
  have hkt : Kt w2 b := by rw [← hw]; exact (((h1.kt.set _ _).set _ _).set _ _).set _ _
  have hsize : w2.heap.size = w1.heap.size := by rw [← hw]; simp [World.size_setCell]
  have hfz : ∀ j, w2.frozen? ⟨b, j, none⟩ = false := fun j => by rw [← hw]; simp only [World.frozen?_setCell]; exact h1.fz j
  have hblk : ∀ k, k ≠ b → w2.heap[k]? = w1.heap[k]? := fun k hk => by
    rw [← hw, Below.heap_setCell _ _ _ _ (by exact hk), Below.heap_setCell _ _ _ _ (by exact hk), Below.heap_setCell _ _ _ _ (by exact hk), Below.heap_setCell _ _ _ _ (by exact hk)]
  have hapart : ∀ o' ∈ O, ∀ j, j < 4 → (o' + j ≠ o ∧ o' + j ≠ o + 1 ∧ o' + j ≠ o + 2 ∧ o' + j ≠ o + 3) := fun o' ho' j hj => by
    have h1 := h.ofs o' ho'
    have hne : o' ≠ o := fun e => ho (e ▸ ho')
    unfold Ofs at h1 hoo
    omega
  have hrow2 : w2.ownsRow B 5 1 (.slice (some ⟨g, 0, none⟩) (hOf o) (hOf o)) (hOf o) hd := by
    rw [← hv0] at hrow
    refine own_of hrow (hblk g ?_)
    rw [← hv0] at hgb
    simp [Value.ownBlock] at hgb
    omega
  clear hw
  refine ⟨hkt, hfz, by rw [hsize]; exact h1.hB, h.bB, fun p hp => ?_, fun p hp => ?_, fun o' ho' => ?_, fun o' ho' => ?_, fun o' ho' => ?_, fun o' ho' => ?_, fun o' ho' o'' ho'' hne => ?_, fun o' ho' => ?_⟩
  · have : p ≠ o ∧ p ≠ o + 1 ∧ p ≠ o + 2 ∧ p ≠ o + 3 := by unfold Ofs at hoo; unfold Sp at hp; omega
    exact hoth p _ this.1 this.2.1 this.2.2.1 this.2.2.2 (h1.sc p hp)
  · obtain ⟨u, hu⟩ := h1.all p hp
    by_cases q0 : p = o
    · subst q0; exact ⟨_, k0⟩
    · by_cases q1 : p = o + 1
      · subst q1; exact ⟨_, k1⟩
      · by_cases q2 : p = o + 2
        · subst q2; exact ⟨_, k2⟩
        · by_cases q3 : p = o + 3
          · subst q3; exact ⟨_, k3⟩
          · exact ⟨u, hoth p u q0 q1 q2 q3 hu⟩
  · rcases List.mem_cons.1 ho' with rfl | hm
    · rw [upd_same]
      refine ⟨?_, ?_, ?_, rfl, by simp⟩
      · simp only [List.length_nil, Nat.mul_zero, Nat.add_zero, hlen]; rw [hv0]; exact k0
      · rw [k3, ← hv3]; rfl
      · simp only [List.length_nil, Nat.mul_zero, Nat.add_zero, hlen, bes, List.flatMap_nil, List.append_nil]; exact hrow2
    · have hne : o' ≠ o := fun e => ho (e ▸ hm)
      rw [upd_other _ _ _ _ hne]
      have hb := h1.bx o' hm
      have a0 := hapart o' hm 0 (by decide)
      have a3 := hapart o' hm 3 (by decide)
      refine ⟨hoth _ _ a0.1 a0.2.1 a0.2.2.1 a0.2.2.2 hb.e0, hoth _ _ a3.1 a3.2.1 a3.2.2.1 a3.2.2.2 hb.e3, own_of hb.row (hblk _ ?_), hb.len, hb.bd⟩
      intro q
      have := h1.kt.ne hb.row
      simp [Value.ownBlock] at this
      exact this q.symm
  · rcases List.mem_cons.1 ho' with rfl | hm
    · rw [hv1]; exact k1
    · have a := hapart o' hm 1 (by decide)
      exact hoth _ _ a.1 a.2.1 a.2.2.1 a.2.2.2 (h1.e1 o' hm)
  · rcases List.mem_cons.1 ho' with rfl | hm
    · rw [hv2]; exact k2
    · have a := hapart o' hm 2 (by decide)
      exact hoth _ _ a.1 a.2.1 a.2.2.1 a.2.2.2 (h1.e2 o' hm)
  · rcases List.mem_cons.1 ho' with rfl | hm
    · rw [upd_same]; exact hlen
    · have hne : o' ≠ o := fun e => ho (e ▸ hm)
      rw [upd_other _ _ _ _ hne]; exact h1.hl o' hm
  · rcases List.mem_cons.1 ho' with rfl | hm
    · rcases List.mem_cons.1 ho'' with rfl | hm'
      · exact absurd rfl hne
      · rw [upd_same, upd_other _ _ _ _ (Ne.symm hne)]
        have := (h.bx o'' hm').glt.2
        show g ≠ _
        omega
    · have hne1 : o' ≠ o := fun e => ho (e ▸ hm)
      rcases List.mem_cons.1 ho'' with rfl | hm'
      · rw [upd_same, upd_other _ _ _ _ hne]
        have := (h.bx o' hm).glt.2
        show _ ≠ g
        omega
      · have hne2 : o'' ≠ o := fun e => ho (e ▸ hm')
        rw [upd_other _ _ _ _ hne1, upd_other _ _ _ _ hne2]
        exact h.sep _ hm _ hm' hne
  · rcases List.mem_cons.1 ho' with rfl | hm
    · exact hoo
    · exact h.ofs o' hm

end Go.Proofs.YbulksxoFmt.Bx
