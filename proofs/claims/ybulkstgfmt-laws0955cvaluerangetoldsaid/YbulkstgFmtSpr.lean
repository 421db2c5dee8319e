import Derived.Test.YbulkstgFmtTok
import Derived.Stop.CallBack
import Derived.Stop.IfaceNil
import GoSem.ClaimData
namespace Go.Proofs.YbulkstgFmt.Tk
open Go Go.RowKit
open Go.Extern.Stop Go.Stop Go.Extern

/-! The closed facts for a walk over fmt.Sprintf, function 27, a stop that calls its operands' methods. -/
theorem call27 (args : Array Value) (w : World) : (callFunc 27 args).run Ybaf.prog w = (FmtCalls.sprintf #[9, 87] #[9] args).run Ybaf.prog w :=
  run_callFunc_next Ybaf.func27 (by kernel_rfl) (by kernel_rfl) (by kernel_rfl) args w
theorem guard27 (name : String) (w : World) : (FmtStop.guard name).run Ybaf.prog w = .ok () w := by kernel_rfl
theorem nextTurns : Extern.next FmtCalls.turnsRow = some (FmtCalls.begun #[] #[]) := by kernel_rfl
theorem fmt_q : FmtStop.printed? ⟨#[37, 113]⟩ 1 = some [(0, 113, false)] := by kernel_rfl
theorem fmt_qr (w : World) : (FmtDoors.printed ⟨#[37, 113]⟩ 1).run Ybaf.prog w = .ok [(0, 113, false)] w := by kernel_rfl
theorem fmt_s2 : FmtStop.printed? ⟨#[101, 120, 112, 101, 99, 116, 101, 100, 32, 37, 115, 44, 32, 102, 111, 117, 110, 100, 32, 37, 115]⟩ 2 = some [(0, 115, false), (1, 115, false)] := by kernel_rfl
theorem fmt_s2r (w : World) : (FmtDoors.printed ⟨#[101, 120, 112, 101, 99, 116, 101, 100, 32, 37, 115, 44, 32, 102, 111, 117, 110, 100, 32, 37, 115]⟩ 2).run Ybaf.prog w = .ok [(0, 115, false), (1, 115, false)] w := by kernel_rfl
theorem fmt_val : FmtStop.printed? ⟨#[101, 120, 112, 101, 99, 116, 101, 100, 32, 97, 32, 118, 97, 108, 117, 101, 44, 32, 102, 111, 117, 110, 100, 32, 37, 115]⟩ 1 = some [(0, 115, false)] := by kernel_rfl
theorem fmt_valr (w : World) : (FmtDoors.printed ⟨#[101, 120, 112, 101, 99, 116, 101, 100, 32, 97, 32, 118, 97, 108, 117, 101, 44, 32, 102, 111, 117, 110, 100, 32, 37, 115]⟩ 1).run Ybaf.prog w = .ok [(0, 115, false)] w := by kernel_rfl
theorem fmt_rng : FmtStop.printed? ⟨#[101, 120, 112, 101, 99, 116, 101, 100, 32, 34, 46, 46, 34, 44, 32, 102, 111, 117, 110, 100, 32, 37, 115]⟩ 1 = some [(0, 115, false)] := by kernel_rfl
theorem fmt_rngr (w : World) : (FmtDoors.printed ⟨#[101, 120, 112, 101, 99, 116, 101, 100, 32, 34, 46, 46, 34, 44, 32, 102, 111, 117, 110, 100, 32, 37, 115]⟩ 1).run Ybaf.prog w = .ok [(0, 115, false)] w := by kernel_rfl
def shape9 : List UInt8 := [12, 6, 0, 0, 0, 0, 0, 0, 0, 115, 116, 114, 105, 110, 103]
theorem act9_113 (name : String) (x : Value) (w : World) : (FmtCalls.act name false 113 false (.iface 9 x)).run Ybaf.prog w = .ok (.closed false) w := by kernel_rfl
theorem op9_113 (name : String) (x : ByteArray) (w : World) : (FmtStop.operand name false 113 false (.iface 9 (.string x))).run Ybaf.prog w = .ok (shape9, FmtStop.pack x.data.toList) w := by kernel_rfl
theorem act9_115 (name : String) (x : Value) (w : World) : (FmtCalls.act name false 115 false (.iface 9 x)).run Ybaf.prog w = .ok (.closed false) w := by kernel_rfl
theorem op9_115 (name : String) (x : ByteArray) (w : World) : (FmtStop.operand name false 115 false (.iface 9 (.string x))).run Ybaf.prog w = .ok (shape9, FmtStop.pack x.data.toList) w := by kernel_rfl
theorem strict9 (name : String) (x : ByteArray) (w : World) : (FmtStop.strict name (.iface 9 (.string x))).run Ybaf.prog w = .ok (shape9, FmtStop.pack x.data.toList) w := by kernel_rfl
attribute [local go_sem] call27 guard27 fmt_q fmt_qr fmt_s2 fmt_s2r fmt_val fmt_valr fmt_rng fmt_rngr act9_113 op9_113 act9_115 op9_115 strict9

set_option maxHeartbeats 400000 in
/-- describe: some text. -/
theorem describe_any (F : Interp) (t : Tok) (w : World) (hF : F.answers w.tape) :
    Calls Ybaf.prog 20 #[.agg #[.int .i64 t.kind, .string t.text, .string t.file, .int .i64 t.line, .int .i64 t.col]] w fun e w' => ∃ s, e = .returned (.string s) ∧ w.grownBy w' none := by
  have hF' := answers_open hF
  by_cases hk : t.kind = 0
  · have hk1 : (t.kind == 0) = true := by simp [hk]
    clear hk
    go_enter Ybaf.func20, Ybaf.ntmps20
    go_wp2
    go_ret
    exact ⟨_, rfl, grown_alloc (grown_refl _ _) _⟩
  · have hk1 : (t.kind == 0) = false := by simp [hk]
    clear hk
    go_enter Ybaf.func20, Ybaf.ntmps20
    go_wp2
    apply rows_value nextTurns
    case hr =>
      go_simp
      exact ⟨rfl, rfl⟩
    case h =>
      go_wp2
      go_ret
      exact ⟨_, rfl, grown_drew (grown_alloc (grown_alloc (grown_refl _ _) _) _)⟩

set_option maxHeartbeats 1000000 in
/-- errorf: a new error. -/
theorem errorf_val (F : Interp) (w : World) (f : ByteArray) (l c : Int) (b : Nat) (s0 : ByteArray) (hF : F.answers w.tape) (hb : b < w.heap.size) (hc0 : w.cell? ⟨b, 0, none⟩ = some (.iface 9 (.string s0))) :
    Calls Ybaf.prog 17 #[.agg #[.string f, .int .i64 l, .int .i64 c], .string ⟨#[101, 120, 112, 101, 99, 116, 101, 100, 32, 97, 32, 118, 97, 108, 117, 101, 44, 32, 102, 111, 117, 110, 100, 32, 37, 115]⟩, .slice (some ⟨b, 0, none⟩) 1 1] w fun e w' => ∃ E, e = .returned (.pointer (some ⟨E, 0, none⟩)) ∧ w.grownBy w' none := by
  have hF' := answers_open hF
  go_enter Ybaf.func17, Ybaf.ntmps17
  go_wp2
  go_region_with (first | (apply rows_value nextTurns; case hr => (go_simp; exact ⟨rfl, rfl⟩)))
  all_goals
    go_wp2
    go_ret
    exact ⟨_, rfl, by repeat (first | (with_reducible exact grown_refl _ _) | (with_reducible refine grown_drew ?_) | (with_reducible refine grown_alloc ?_ _))⟩

set_option maxHeartbeats 1000000 in
/-- errorf: a new error. -/
theorem errorf_rng (F : Interp) (w : World) (f : ByteArray) (l c : Int) (b : Nat) (s0 : ByteArray) (hF : F.answers w.tape) (hb : b < w.heap.size) (hc0 : w.cell? ⟨b, 0, none⟩ = some (.iface 9 (.string s0))) :
    Calls Ybaf.prog 17 #[.agg #[.string f, .int .i64 l, .int .i64 c], .string ⟨#[101, 120, 112, 101, 99, 116, 101, 100, 32, 34, 46, 46, 34, 44, 32, 102, 111, 117, 110, 100, 32, 37, 115]⟩, .slice (some ⟨b, 0, none⟩) 1 1] w fun e w' => ∃ E, e = .returned (.pointer (some ⟨E, 0, none⟩)) ∧ w.grownBy w' none := by
  have hF' := answers_open hF
  go_enter Ybaf.func17, Ybaf.ntmps17
  go_wp2
  go_region_with (first | (apply rows_value nextTurns; case hr => (go_simp; exact ⟨rfl, rfl⟩)))
  all_goals
    go_wp2
    go_ret
    exact ⟨_, rfl, by repeat (first | (with_reducible exact grown_refl _ _) | (with_reducible refine grown_drew ?_) | (with_reducible refine grown_alloc ?_ _))⟩

set_option maxHeartbeats 1000000 in
/-- errorf: a new error. -/
theorem errorf_two (F : Interp) (w : World) (f : ByteArray) (l c : Int) (b : Nat) (s0 s1 : ByteArray) (hF : F.answers w.tape) (hb : b < w.heap.size) (hc0 : w.cell? ⟨b, 0, none⟩ = some (.iface 9 (.string s0))) (hc1 : w.cell? ⟨b, 1, none⟩ = some (.iface 9 (.string s1))) :
    Calls Ybaf.prog 17 #[.agg #[.string f, .int .i64 l, .int .i64 c], .string ⟨#[101, 120, 112, 101, 99, 116, 101, 100, 32, 37, 115, 44, 32, 102, 111, 117, 110, 100, 32, 37, 115]⟩, .slice (some ⟨b, 0, none⟩) 2 2] w fun e w' => ∃ E, e = .returned (.pointer (some ⟨E, 0, none⟩)) ∧ w.grownBy w' none := by
  have hF' := answers_open hF
  go_enter Ybaf.func17, Ybaf.ntmps17
  go_wp2
  go_region_with (first | (apply rows_value nextTurns; case hr => (go_simp; exact ⟨rfl, rfl⟩)))
  all_goals
    go_wp2
    go_ret
    exact ⟨_, rfl, by repeat (first | (with_reducible exact grown_refl _ _) | (with_reducible refine grown_drew ?_) | (with_reducible refine grown_alloc ?_ _))⟩

end Go.Proofs.YbulkstgFmt.Tk
