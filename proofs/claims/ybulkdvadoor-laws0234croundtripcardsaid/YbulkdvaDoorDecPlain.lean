/-
  THE PLAIN LAW OF READING A VARINT BACK.
-/
import Derived.Test.YbulkdvaDoorUvPlain
namespace Go.Proofs.YbulkdvaDoor

theorem wraps_u64 (n : Int) (h₀ : 0 ≤ n) (h₁ : n < 2 ^ 64) : IntKind.u64.wrap n = n := by rw [IntKind.wrap_u64]; omega
theorem or_comm' (k : IntKind) (a b : Int) : bits .or k a b = bits .or k b a := by simp only [bits, BitVec.or_comm]
theorem pow7 (k : Nat) : (128 : Nat) ^ k = 2 ^ (7 * k) := by rw [Nat.pow_mul]

theorem or_join (acc t k : Nat) (hacc : acc < 128 ^ k) (h : acc + t * 128 ^ k < 18446744073709551616) : bits .or .u64 (acc : Int) ((t : Int) * 2 ^ (7 * k)) = ((acc + t * 128 ^ k : Nat) : Int) := by
  have e : ((t : Int) * 2 ^ (7 * k)) = ((t * 128 ^ k : Nat) : Int) := by rw [pow7]; simp
  have e2 : ((2 : Int) ^ (7 * k)) = ((128 ^ k : Nat) : Int) := by rw [pow7]; simp
  have hz : ((t * 128 ^ k : Nat) : Int) % 2 ^ (7 * k) = 0 := by rw [e2, ← Int.natCast_emod, Nat.mul_mod_left]; rfl
  rw [e, or_comm', bits_join .u64 64 (by decide) wraps_u64 (7 * k) _ _ (by omega) hz (by omega) (by omega) (by rw [e2]; omega) (by omega)]
  omega

theorem or_join_w (acc t k : Nat) (hacc : acc < 128 ^ k) (h : acc + t * 128 ^ k < 18446744073709551616) : bits .or .u64 (acc : Int) (IntKind.u64.wrap ((t : Int) * 2 ^ (7 * k))) = ((acc + t * 128 ^ k : Nat) : Int) := by
  have e : ((t : Int) * 2 ^ (7 * k)) = ((t * 128 ^ k : Nat) : Int) := by rw [pow7]; simp
  have hw : IntKind.u64.wrap ((t : Int) * 2 ^ (7 * k)) = (t : Int) * 2 ^ (7 * k) := by
    rw [e]; exact wraps_u64 _ (by omega) (by omega)
  rw [hw]
  exact or_join acc t k hacc h

theorem and127 (y : Nat) : bits .and .u8 ((y : Int) % 128 + 128) 127 = ((y % 128 : Nat) : Int) := by
  have := bits_mask .u8 8 (by decide) wraps_u8 7 (by decide) ((y : Int) % 128 + 128) (by omega) (by omega)
  have e : ((2 : Int) ^ 7 - 1) = 127 := by decide
  rw [e] at this
  rw [this]
  have e2 : ((2 : Int) ^ 7) = 128 := by decide
  rw [e2]
  omega

theorem le_mulpow (y k : Nat) : y ≤ y * 128 ^ k := Nat.le_mul_of_pos_right _ (Nat.pow_pos (by decide))

theorem step_le (acc y k : Nat) : acc + y % 128 * 128 ^ k ≤ acc + y * 128 ^ k := Nat.add_le_add_left (Nat.mul_le_mul_right _ (Nat.mod_le _ _)) _

theorem step_dec (acc y k : Nat) (hacc : acc < 128 ^ k) (h : acc + y * 128 ^ k < 18446744073709551616) :
    bits .or .u64 (acc : Int) (IntKind.u64.wrap (IntKind.u64.wrap (bits .and .u8 ((y : Int) % 128 + 128) 127) * 2 ^ (7 * k))) = ((acc + y % 128 * 128 ^ k : Nat) : Int) := by
  have hl := step_le acc y k
  rw [and127, wraps_u64 ((y % 128 : Nat) : Int) (by omega) (by omega)]
  exact or_join_w acc (y % 128) k hacc (by omega)

theorem step_acc (acc y k : Nat) (hacc : acc < 128 ^ k) : acc + y % 128 * 128 ^ k < 128 ^ (k + 1) := by
  have h : y % 128 * 128 ^ k ≤ 127 * 128 ^ k := Nat.mul_le_mul_right _ (by omega)
  rw [Nat.pow_succ]
  omega

theorem step_x (acc y k : Nat) : acc + y * 128 ^ k = acc + y % 128 * 128 ^ k + y / 128 * 128 ^ (k + 1) := by
  have e : y = y % 128 + 128 * (y / 128) := by omega
  have e2 : y / 128 * 128 ^ (k + 1) = 128 * (y / 128) * 128 ^ k := by
    rw [Nat.pow_succ, Nat.mul_comm (128 ^ k) 128, ← Nat.mul_assoc, Nat.mul_comm (y / 128) 128]
  rw [e2, Nat.add_assoc, ← Nat.add_mul, ← e]

theorem last_y (acc y : Nat) (h : acc + y * 128 ^ 9 < 18446744073709551616) : y ≤ 1 := by
  have e : (128 : Nat) ^ 9 = 9223372036854775808 := by decide
  rw [e] at h
  omega

/-- The byte at place k. -/
theorem at_more {l ys rest : List Int} {x f y k : Nat} (hl : l = uv x ++ rest) (h : uv x = ys ++ uvF (f + 1) y) (hk : ys.length = k) (hge : 128 ≤ y) : k < l.length ∧ l.getD k 0 = ((y % 128 + 128 : Nat) : Int) := by
  have e : uvF (f + 1) y = ((y % 128 + 128 : Nat) : Int) :: uvF f (y / 128) := if_pos hge
  rw [hl, h, e]
  subst hk
  refine ⟨by simp, ?_⟩
  simp [List.getD]
theorem at_last {l ys rest : List Int} {x f y k : Nat} (hl : l = uv x ++ rest) (h : uv x = ys ++ uvF (f + 1) y) (hk : ys.length = k) (hge : ¬ 128 ≤ y) : k < l.length ∧ l.getD k 0 = (y : Int) ∧ (uv x).length = k + 1 := by
  have e : uvF (f + 1) y = [(y : Int)] := if_neg hge
  rw [hl, h, e]
  subst hk
  refine ⟨by simp, ?_, by simp⟩
  simp [List.getD]
theorem uv_next {ys : List Int} {x f y : Nat} (h : uv x = ys ++ uvF (f + 2) y) (hge : 128 ≤ y) : uv x = (ys ++ [((y % 128 + 128 : Nat) : Int)]) ++ uvF (f + 1) (y / 128) := by
  rw [h, List.append_assoc]
  congr 1
  conv => lhs; unfold uvF
  rw [if_pos hge]
  rfl

end Go.Proofs.YbulkdvaDoor
