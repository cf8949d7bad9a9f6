/-
  '(*bitReader).fail', fmt.Sprintf's calling stop in it (no operand's method is called: a string), AND 'bits' WHERE THE BITS DO NOT SUFFICE.
-/
import Derived.Test.YbulkdvaFmtRows
import Derived.WalkKit
import Derived.WalkSpells
import Derived.Stop.CallBack
import Derived.Stop.IfaceNil
import Derived.Deep.RegionWith
import Derived.Deep.QuietTactic
import Derived.BigQuiet
namespace Go.Proofs.YbulkdvaFmt
open Go.RowKit Go.Extern.Stop Go.Stop Go.Extern

theorem call8 (args : Array Value) (w : World) : (callFunc 8 args).run Ybaf.prog w = (FmtCalls.sprintf #[9, 40] #[9] args).run Ybaf.prog w :=
  run_callFunc_next Ybaf.func8 (by kernel_rfl) (by kernel_rfl) (by kernel_rfl) args w
theorem guardF (name : String) (w : World) : (FmtStop.guard name).run Ybaf.prog w = .ok () w := by kernel_rfl
theorem nextTurns : Extern.next FmtCalls.turnsRow = some (FmtCalls.begun #[] #[]) := by kernel_rfl
theorem fmtCut : FmtStop.printed? ⟨#[37, 115, 32, 105, 115, 32, 99, 117, 116, 32, 115, 104, 111, 114, 116]⟩ 1 = some [(0, 115, false)] := by kernel_rfl
theorem fmtCutr (w : World) : (FmtDoors.printed ⟨#[37, 115, 32, 105, 115, 32, 99, 117, 116, 32, 115, 104, 111, 114, 116]⟩ 1).run Ybaf.prog w = .ok [(0, 115, false)] w := by kernel_rfl
def shape9 : List UInt8 := [12, 6, 0, 0, 0, 0, 0, 0, 0, 115, 116, 114, 105, 110, 103]
theorem act9 (name : String) (x : Value) (w : World) : (FmtCalls.act name false 115 false (.iface 9 x)).run Ybaf.prog w = .ok (.closed false) w := by kernel_rfl
theorem op9 (name : String) (x : ByteArray) (w : World) : (FmtStop.operand name false 115 false (.iface 9 (.string x))).run Ybaf.prog w = .ok (shape9, FmtStop.pack x.data.toList) w := by kernel_rfl
attribute [local go_sem] call8 guardF fmtCut fmtCutr act9 op9

/-- What the stop yields: some string; one draw; nothing else. -/
theorem spr (F : Interp) (b : Nat) (s : ByteArray) (w : World) (hF : F.answers w.tape) (hb : w.cell? ⟨b, 0, none⟩ = some (.iface 9 (.string s))) :
    ∃ t, (FmtCalls.begun #[] #[] (FmtCalls.save 0 0 (.slice (some ⟨b, 0, none⟩) 1 1) ⟨#[37, 115, 32, 105, 115, 32, 99, 117, 116, 32, 115, 104, 111, 114, 116]⟩ [] [(0, 115, false)])).run Ybaf.prog w = .ok (.value (.string t)) w.drew := by
  have hF' := answers_open hF
  refine ⟨FmtStop.textOf (F (FmtCalls.frontName 0) [[37, 115, 32, 105, 115, 32, 99, 117, 116, 32, 115, 104, 111, 114, 116], shape9, FmtStop.pack s.data.toList] 0), ?_⟩
  go_simp

set_option maxHeartbeats 400000 in
theorem fail_any (F : Interp) (R b : Nat) (at_ : Int) (s : ByteArray) (w : World) (hF : F.answers w.tape)
    (hR : w.cell? ⟨R, 2, none⟩ = some (.int .i64 at_)) (hb : w.cell? ⟨b, 0, none⟩ = some (.iface 9 (.string s))) :
    Calls Ybaf.prog 7 #[.pointer (some ⟨R, 0, none⟩), .string ⟨#[37, 115, 32, 105, 115, 32, 99, 117, 116, 32, 115, 104, 111, 114, 116]⟩, .slice (some ⟨b, 0, none⟩) 1 1] w fun e w' =>
      e = .returned (.iface 32 (.pointer (some ⟨w.heap.size, 0, none⟩))) ∧ ∃ t, w' = ((w.alloc (.cells #[.int .i64 at_, t] 35)).drew).drew := by
  obtain ⟨t, ht⟩ := spr F b s w.drew hF hb
  go_enter Ybaf.func7, Ybaf.ntmps7
  go_wp2
  go_region_with (with_reducible refine rows_value nextTurns ht ?_)
  all_goals go_wp2
  all_goals go_ret
  all_goals exact ⟨rfl, _, rfl⟩

theorem drewN_below {B : Nat} {a w : World} (h : Below B a w) (n : Nat) : Below B a (w.drewN n) := h.trans ⟨rfl, rfl, rfl, Nat.le_refl _, fun _ _ => rfl⟩
theorem cell_new (w : World) (cs : Array Value) (t : TypeId) (j : Nat) : (w.alloc (.cells cs t)).cell? ⟨w.heap.size, j, none⟩ = cs[j]? := by simp

set_option maxHeartbeats 400000 in
/-- More bits are asked for than there are. -/
theorem bits_short (F : Interp) (R n cap p : Nat) (ao : Option Addr) (m at_ : Int) (s : ByteArray) (w : World) (hF : F.answers w.tape) (hn : n ≤ 1024) (hm : (n : Int) * 8 - p < m) (hm' : m ≤ 9223372036854775807)
    (hp : p ≤ n * 8) (hR : w.cell? ⟨R, 0, none⟩ = some (.slice ao n cap)) (hR1 : w.cell? ⟨R, 1, none⟩ = some (.int .i64 p)) (hR2 : w.cell? ⟨R, 2, none⟩ = some (.int .i64 at_)) :
    Calls Ybaf.prog 5 #[.pointer (some ⟨R, 0, none⟩), .int .i64 m, .string s] w fun e w' => ∃ B, e = .returned (.tuple #[.int .u64 0, .iface 32 (.pointer (some ⟨B, 0, none⟩))]) ∧
      w.heap.size ≤ B ∧ w'.cell? ⟨B, 0, none⟩ = some (.int .i64 at_) ∧ Below w.heap.size w w' := by
  have hRb := World.block_lt_of_cell? w _ hR2
  go_enter Ybaf.func5, Ybaf.ntmps5
  go_wp2
  go_quiet (fail)
  go_wp2_with fail
  refine (fail_any F R w.heap.size at_ s _ (by exact hF) ?_ ?_).mono ?_
  · exact (World.cell?_alloc_past _ _ _ (by exact hRb)).trans hR2
  · exact cell_new (w.drewN nq) _ _ 0
  rintro e w' ⟨rfl, t, rfl⟩
  go_wp2
  go_ret2
  refine ⟨_, rfl, by omega, ?_, (((((drewN_below (Below.refl _ w) nq).alloc (Nat.le_refl _) _).alloc (by simp) _).drew).drew)⟩
  exact World.cell?_alloc_at (w := (w.drewN nq).alloc _) _ _ _ _ (by simp)
end Go.Proofs.YbulkdvaFmt
