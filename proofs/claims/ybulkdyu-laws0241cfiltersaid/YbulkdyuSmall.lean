/-
  THE SMALL FUNCTIONS: the law's prefixes, its own test, the filter's test.
-/
import Derived.Test.YbulkdyuRows
import Derived.WalkKit
import Derived.WalkSpells
namespace Go.Proofs.Ybulkdyu
open Go.RowKit

/-- The law's prefixes. -/
def pfx (k : Int) : ByteArray :=
  if k % 7 = 0 then ⟨#[]⟩ else if k % 7 = 1 then ⟨#[82, 83, 89, 78, 67, 95]⟩ else if k % 7 = 2 then ⟨#[82, 83, 89, 78, 67, 95, 80, 82, 79, 88, 89, 61]⟩ else if k % 7 = 3 then ⟨#[82, 83, 89, 78, 67, 95, 80, 82, 79, 88, 89]⟩
  else if k % 7 = 4 then ⟨#[82, 83, 89, 78, 67, 95, 82, 83, 72, 61]⟩ else if k % 7 = 5 then ⟨#[80, 65, 84, 72, 61]⟩ else ⟨#[82, 83, 89, 78, 67, 95, 67, 79, 78, 78, 69, 67, 84, 95, 80, 82, 79, 71, 61]⟩
theorem pfx_size (k : Int) : (pfx k).size ≤ 19 := by
  unfold pfx
  repeat' split
  all_goals decide

theorem prefix_any (k : Int) (w : World) (h0 : 0 ≤ k) (h1 : k ≤ 255) : Calls Yba.prog 8 #[.int .u8 k] w fun e w' => e = .returned (.string (pfx k)) ∧ w' = w := by
  have h : k % 7 = 0 ∨ k % 7 = 1 ∨ k % 7 = 2 ∨ k % 7 = 3 ∨ k % 7 = 4 ∨ k % 7 = 5 ∨ k % 7 = 6 := by omega
  unfold pfx
  rcases h with h | h | h | h | h | h | h
  all_goals
    go_enter Yba.func8, Yba.ntmps8
    go_wp2
    go_ret
    exact ⟨by simp, rfl⟩

/-- The filter drops s. -/
def dropB (s : ByteArray) : Bool := (decide (6 ≤ s.size) && ((s.extract 0 6).toList == [82, 83, 89, 78, 67, 95])) && !(decide (12 ≤ s.size) && ((s.extract 0 12).toList == [82, 83, 89, 78, 67, 95, 80, 82, 79, 88, 89, 61]))

theorem drop_lo {s : ByteArray} (h : ¬ 6 ≤ s.size) : dropB s = false := by simp [dropB, h]
theorem drop_ne {s : ByteArray} (h : ((s.extract 0 6).toList == [82, 83, 89, 78, 67, 95]) = false) : dropB s = false := by simp [dropB, h]
theorem drop_12 {s : ByteArray} (h6 : 6 ≤ s.size) (h : ((s.extract 0 6).toList == [82, 83, 89, 78, 67, 95]) = true) (h12 : ¬ 12 ≤ s.size) : dropB s = true := by simp [dropB, h, h6, h12]
theorem drop_eq {s : ByteArray} (h6 : 6 ≤ s.size) (h : ((s.extract 0 6).toList == [82, 83, 89, 78, 67, 95]) = true) (h12 : 12 ≤ s.size) : dropB s = !((s.extract 0 12).toList == [82, 83, 89, 78, 67, 95, 80, 82, 79, 88, 89, 61]) := by simp [dropB, h, h6, h12]

set_option maxHeartbeats 400000 in
theorem keep_any (s : ByteArray) (w : World) (hs : s.size ≤ 9223372036854775807) : Calls Yba.prog 7 #[.string s] w fun e w' => e = .returned (.bool (!dropB s)) ∧ w' = w := by
  by_cases h6 : 6 ≤ s.size
  · have h6' : ¬ (s.size : Int) < 6 := by omega
    cases hp : ((s.extract 0 6).toList == [82, 83, 89, 78, 67, 95])
    · rw [drop_ne hp]
      go_enter Yba.func7, Yba.ntmps7
      go_wp2
      go_ret
      exact ⟨rfl, rfl⟩
    · by_cases h12 : 12 ≤ s.size
      · have h12' : (12 : Int) ≤ (s.size : Int) := by omega
        rw [drop_eq h6 hp h12, Bool.not_not]
        go_enter Yba.func7, Yba.ntmps7
        go_wp2
        go_ret
        exact ⟨rfl, rfl⟩
      · have h12' : ¬ (12 : Int) ≤ (s.size : Int) := by omega
        rw [drop_12 h6 hp h12]
        go_enter Yba.func7, Yba.ntmps7
        go_wp2
        go_ret
        exact ⟨rfl, rfl⟩
  · have h6' : (s.size : Int) < 6 := by omega
    rw [drop_lo h6]
    go_enter Yba.func7, Yba.ntmps7
    go_wp2
    go_ret
    exact ⟨rfl, rfl⟩

set_option maxHeartbeats 400000 in
theorem drop_any (s : ByteArray) (w : World) (hs : s.size ≤ 9223372036854775807) : Calls Yba.prog 11 #[.string s] w fun e w' => e = .returned (.bool (dropB s)) ∧ w' = w := by
  by_cases h6 : 6 ≤ s.size
  · have h6' : (6 : Int) ≤ (s.size : Int) := by omega
    cases hp : ((s.extract 0 6).toList == [82, 83, 89, 78, 67, 95])
    · rw [drop_ne hp]
      go_enter Yba.func11, Yba.ntmps11
      go_wp2
      go_ret
      exact ⟨rfl, rfl⟩
    · by_cases h12 : 12 ≤ s.size
      · have h12' : (12 : Int) ≤ (s.size : Int) := by omega
        rw [drop_eq h6 hp h12]
        go_enter Yba.func11, Yba.ntmps11
        go_wp2
        go_ret
        exact ⟨rfl, rfl⟩
      · have h12' : ¬ (12 : Int) ≤ (s.size : Int) := by omega
        rw [drop_12 h6 hp h12]
        go_enter Yba.func11, Yba.ntmps11
        go_wp2
        go_ret
        exact ⟨rfl, rfl⟩
  · have h6' : ¬ (6 : Int) ≤ (s.size : Int) := by omega
    rw [drop_lo h6]
    go_enter Yba.func11, Yba.ntmps11
    go_wp2
    go_ret
    exact ⟨rfl, rfl⟩
end Go.Proofs.Ybulkdyu
