/-
  THE SMALL FUNCTIONS: the law's own slot.
-/
import Derived.Test.YbulkedqRows
import Derived.WalkKit
import Derived.WalkSpells
namespace Go.Proofs.Ybulkedq
open Go.RowKit

/-- The slot that the law gives a waypoint. -/
def slotOf (s : Int) (n : Nat) : Int := if n = 0 ∨ s < 0 then -1 else s % n

theorem slotOf_lt (s : Int) (n : Nat) : slotOf s n < n := by
  unfold slotOf
  split
  · omega
  · rename_i h
    have := Int.emod_lt_of_pos s (b := (n : Int)) (by omega)
    omega
theorem slotOf_ge (s : Int) (n : Nat) : -1 ≤ slotOf s n := by
  unfold slotOf
  split
  · omega
  · rename_i h
    have := Int.emod_nonneg s (b := (n : Int)) (by omega)
    omega

theorem slot_any (s : Int) (n : Nat) (w : World) (h0 : -9223372036854775808 ≤ s) (h1 : s ≤ 9223372036854775807) (hn : n ≤ 1024) :
    Calls Yba.prog 4 #[.int .i64 s, .int .i64 n] w fun e w' => e = .returned (.int .i64 (slotOf s n)) ∧ w' = w := by
  by_cases hz : n = 0
  · subst hz
    have e : slotOf s 0 = -1 := by simp [slotOf]
    rw [e]
    go_enter Yba.func4, Yba.ntmps4
    go_wp2
    go_ret
    exact ⟨rfl, rfl⟩
  · by_cases hs : s < 0
    · have e : slotOf s n = -1 := by simp [slotOf, hs]
      rw [e]
      have hz' : ¬ (n : Int) = 0 := by omega
      go_enter Yba.func4, Yba.ntmps4
      go_wp2
      go_ret
      exact ⟨rfl, rfl⟩
    · have e : slotOf s n = s % n := by simp [slotOf, hs, hz]
      rw [e]
      have hz' : ¬ (n : Int) = 0 := by omega
      have b0 : 0 ≤ s % (n : Int) := Int.emod_nonneg s (by omega)
      have b1 : s % (n : Int) < n := Int.emod_lt_of_pos s (by omega)
      go_enter Yba.func4, Yba.ntmps4
      go_wp2
      go_ret
      exact ⟨rfl, rfl⟩
end Go.Proofs.Ybulkedq
