/-
  THE WALK OF '(*bitReader).bits' WHERE THERE ARE BITS ENOUGH: it returns the bits and nil, and moves 'next' on.
-/
import Derived.Test.YbulkdvaFmtRows
import Derived.Test.YbulkdvaFmtPlain
import Derived.WalkKit
import Derived.WalkSpells
import Derived.RegionTactic
import Derived.Deep.QuietTactic
import Derived.BigQuiet
namespace Go.Proofs.YbulkdvaFmt
open Go.RowKit

theorem drewN_grownBy (w : World) (n : Nat) (row : Option Nat) : w.grownBy (w.drewN n) row := ⟨rfl, rfl, rfl, Nat.le_refl _, fun _ _ _ => rfl⟩
theorem grownBy_set {w w1 : World} {R : Nat} (h : w.grownBy w1 (some R)) (n o : Nat) (v : Value) : w.grownBy ((w1.drewN n).setCell ⟨R, o, none⟩ v) (some R) :=
  ⟨h.os, h.tape, h.output, by simpa [World.setCell] using h.size, fun k hk hne => by
    rw [Below.heap_setCell _ _ _ _ (fun e => hne (by rw [e]))]
    exact h.block k hk hne⟩

/-- What 'bits' leaves of the reader that lies in block R. -/
structure Left5 (R : Nat) (sv : Value) (q : Int) (w w' : World) : Prop where
  grown : w.grownBy w' (some R)
  row : w'.cell? ⟨R, 0, none⟩ = some sv
  next : w'.cell? ⟨R, 1, none⟩ = some (.int .i64 q)
  at_ : w'.cell? ⟨R, 2, none⟩ = w.cell? ⟨R, 2, none⟩
  free : w'.frozen? ⟨R, 1, none⟩ = false

set_option maxHeartbeats 400000 in
theorem bits_some (R g off n cap p : Nat) (m : Nat) (zs : List Int) (s : ByteArray) (w : World) (hn : n ≤ 1024) (hp : p + m ≤ n * 8)
    (hR : w.cell? ⟨R, 0, none⟩ = some (.slice (some ⟨g, off, none⟩) n cap)) (hR1 : w.cell? ⟨R, 1, none⟩ = some (.int .i64 p)) (hf1 : w.frozen? ⟨R, 1, none⟩ = false)
    (hne : g ≠ R) (hc : ∀ j, j < n → w.cell? ⟨g, off + j, none⟩ = some (.int .u8 (zs.getD j 0))) (hz : ∀ j, 0 ≤ zs.getD j 0 ∧ zs.getD j 0 < 256) :
    Calls Ybaf.prog 5 #[.pointer (some ⟨R, 0, none⟩), .int .i64 m, .string s] w fun e w' => e = .returned (.tuple #[.int .u64 (rdv zs p m), .nilIface]) ∧
      Left5 R (.slice (some ⟨g, off, none⟩) n cap) (p + m : Nat) w w' := by
  go_enter Ybaf.func5, Ybaf.ntmps5
  go_wp2
  go_quiet (fail)
  go_wp2
  go_loopw [8, 28] (fun v i wr => ∃ k : Nat, k ≤ m ∧ i = .int .i64 k ∧ v = .int .u64 (rdv zs p k) ∧ w.grownBy wr (some R) ∧ wr.cell? ⟨R, 0, none⟩ = some (.slice (some ⟨g, off, none⟩) n cap) ∧ wr.cell? ⟨R, 1, none⟩ = some (.int .i64 (p + k : Nat)) ∧ wr.cell? ⟨R, 2, none⟩ = w.cell? ⟨R, 2, none⟩ ∧ wr.frozen? ⟨R, 1, none⟩ = false) (fun _ i _ => m - (intOf i).toNat)
  case atStart => exact ⟨0, Nat.zero_le _, rfl, rfl, drewN_grownBy _ _ _, hR, hR1, rfl, hf1⟩
  case round =>
    obtain ⟨k, hk, rfl, rfl, hg, h0, h1, h3, h2⟩ := hrel
    by_cases hlt : k < m
    · have hcc : wr.cell? ⟨g, off + (p + k) / 8, none⟩ = some (.int .u8 (zs.getD ((p + k) / 8) 0)) := hg.cell (hc _ (by omega)) (by simpa using hne)
      have hb : (p + k) / 8 < n := by omega
      have H3 : Hid (wr.cell? ⟨R, 2, none⟩ = w.cell? ⟨R, 2, none⟩) := h3
      clear h3 hc
      go_wp2
      go_quiet (fail)
      go_wp2
      go_roundw
      case rel =>
        refine ⟨k + 1, by omega, by go_num, ?_, grownBy_set hg _ _ _, ?_, ?_, ?_, ?_⟩
        · have := step_bits zs p k (hz _).1 (hz _).2
          rw [List.getD_eq_getElem?_getD] at this
          exact congrArg (Value.int .u64) this
        · exact (World.cell?_setCell_other _ _ _ _ (by simp)).trans h0
        · rw [World.cell?_setCell_same (w := wr.drewN nq) _ _ h1]
          go_num
        · exact (World.cell?_setCell_other _ _ _ _ (by simp)).trans H3.out
        · exact (World.frozen?_setCell _ _ _ _).trans h2
      case measure => simp [intOf]; omega
    · have hkm : k = m := by omega
      subst hkm
      go_wp2
      go_ret2
      exact ⟨rfl, hg, h0, h1, h3, h2⟩

set_option maxHeartbeats 400000 in
/-- No bit is asked for: nothing is read of the bytes. -/
theorem bits_zero (R n cap p : Nat) (ao : Option Addr) (m : Int) (s : ByteArray) (w : World) (hn : n ≤ 1024) (hp : p ≤ n * 8) (hm : m ≤ 0)
    (hR : w.cell? ⟨R, 0, none⟩ = some (.slice ao n cap)) (hR1 : w.cell? ⟨R, 1, none⟩ = some (.int .i64 p)) (hf1 : w.frozen? ⟨R, 1, none⟩ = false) :
    Calls Ybaf.prog 5 #[.pointer (some ⟨R, 0, none⟩), .int .i64 m, .string s] w fun e w' => e = .returned (.tuple #[.int .u64 0, .nilIface]) ∧
      Left5 R (.slice ao n cap) p w w' := by
  go_enter Ybaf.func5, Ybaf.ntmps5
  go_wp2
  go_quiet (fail)
  go_wp2
  refine wp_loop_rounds 1 ?_
  rw [rounds_succ]
  go_wp2
  go_ret2
  exact ⟨rfl, drewN_grownBy _ _ _, hR, hR1, rfl, hf1⟩

/-- Both, for a slice of which each element is known where it has any. -/
theorem bits_ok (R n cap p : Nat) (ao : Option Addr) (mi : Int) (m : Nat) (hmi : mi = m) (zs : List Int) (s : ByteArray) (w : World) (hn : n ≤ 1024) (hp : p + m ≤ n * 8)
    (hR : w.cell? ⟨R, 0, none⟩ = some (.slice ao n cap)) (hR1 : w.cell? ⟨R, 1, none⟩ = some (.int .i64 p)) (hf1 : w.frozen? ⟨R, 1, none⟩ = false)
    (hc : 0 < n → ∃ g, ao = some ⟨g, 0, none⟩ ∧ g ≠ R ∧ ∀ j, j < n → w.cell? ⟨g, j, none⟩ = some (.int .u8 (zs.getD j 0))) (hz : ∀ j, 0 ≤ zs.getD j 0 ∧ zs.getD j 0 < 256) :
    Calls Ybaf.prog 5 #[.pointer (some ⟨R, 0, none⟩), .int .i64 mi, .string s] w fun e w' => e = .returned (.tuple #[.int .u64 (rdv zs p m), .nilIface]) ∧
      Left5 R (.slice ao n cap) (p + m : Nat) w w' := by
  subst hmi
  by_cases hm : m = 0
  · subst hm
    exact bits_zero R n cap p ao 0 s w hn (by omega) (by omega) hR hR1 hf1
  · obtain ⟨g, rfl, hne, hcell⟩ := hc (by omega)
    exact bits_some R g 0 n cap p m zs s w hn hp hR hR1 hf1 hne (fun j hj => by rw [Nat.zero_add]; exact hcell j hj) hz

end Go.Proofs.YbulkdvaFmt
