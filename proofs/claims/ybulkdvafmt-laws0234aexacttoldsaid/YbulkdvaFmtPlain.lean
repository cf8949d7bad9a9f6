/-
  THE PLAIN LAW: what 'bitReader.bits' computes, with no Go in sight.
  'bitv zs q': bit q of the bytes zs, counted from the highest bit of the first byte. 'rdv zs p k': the k bits from p on, as the machine gathers them in 64 bits.
-/
import Derived.Laws.BitsLemmas
import Derived.Laws.BitsAllLaws
namespace Go.Proofs.YbulkdvaFmt

def bitv (zs : List Int) (q : Nat) : Int := (zs.getD (q / 8) 0 / 2 ^ (7 - q % 8)) % 2

def rdv (zs : List Int) (p : Nat) : Nat → Int
  | 0 => 0
  | k + 1 => (rdv zs p k * 2 + bitv zs (p + k)) % 18446744073709551616

theorem bitv_01 (zs : List Int) (q : Nat) : 0 ≤ bitv zs q ∧ bitv zs q ≤ 1 := by unfold bitv; omega

theorem rdv_bd (zs : List Int) (p k : Nat) : 0 ≤ rdv zs p k ∧ rdv zs p k < 18446744073709551616 := by
  cases k with
  | zero => simp [rdv]
  | succ k => simp only [rdv]; omega

theorem wraps_u64 (n : Int) (h₀ : 0 ≤ n) (h₁ : n < 2 ^ 64) : IntKind.u64.wrap n = n := by rw [IntKind.wrap_u64]; omega

theorem and_one_u8 (x : Int) (h₀ : 0 ≤ x) (h₁ : x < 256) : bits .and .u8 x 1 = x % 2 := bits_mask .u8 8 (by decide) wraps_u8 1 (by decide) x h₀ h₁

theorem shr_bd (z : Int) (e : Nat) (h0 : 0 ≤ z) (h1 : z < 256) : 0 ≤ z / 2 ^ e ∧ z / 2 ^ e < 256 := by
  have hp : (0 : Int) < 2 ^ e := Int.pow_pos (by decide)
  refine ⟨Int.ediv_nonneg h0 (Int.le_of_lt hp), ?_⟩
  have := Int.ediv_le_self (2 ^ e) h0
  omega

/-- One step of the gathering. -/
theorem or_bit (v b : Int) (hb0 : 0 ≤ b) (hb1 : b ≤ 1) : bits .or .u64 (IntKind.u64.wrap (v * 2)) b = (v * 2 + b) % 18446744073709551616 := by
  rw [IntKind.wrap_u64, bits_join .u64 64 (by decide) wraps_u64 1 (v * 2 % 18446744073709551616) b (by omega) (by omega) (by omega) hb0 (by omega) (by omega)]
  omega

theorem step_bits (zs : List Int) (p k : Nat) (h0 : 0 ≤ zs.getD ((p + k) / 8) 0) (h1 : zs.getD ((p + k) / 8) 0 < 256) :
    bits .or .u64 (IntKind.u64.wrap (rdv zs p k * 2)) (IntKind.u64.wrap (bits .and .u8 (zs.getD ((p + k) / 8) 0 / 2 ^ (7 - (p + k) % 8)) 1)) = rdv zs p (k + 1) := by
  have hs := shr_bd _ (7 - (p + k) % 8) h0 h1
  have hb := bitv_01 zs (p + k)
  rw [and_one_u8 _ hs.1 hs.2]
  have e : zs.getD ((p + k) / 8) 0 / 2 ^ (7 - (p + k) % 8) % 2 = bitv zs (p + k) := rfl
  rw [e, wraps_u64 _ hb.1 (by omega), or_bit _ _ hb.1 hb.2]
  rfl

/-- The law's own way to a bit. -/
theorem bit_other (z : Int) (r : Nat) (hr : r < 8) (h0 : 0 ≤ z) (h1 : z < 256) : IntKind.u8.wrap (z * 2 ^ r) / 2 ^ 7 = z / 2 ^ (7 - r) % 2 := by
  rw [IntKind.wrap_u8]
  match r, hr with
  | 0, _ => simp; omega
  | 1, _ => simp; omega
  | 2, _ => simp; omega
  | 3, _ => simp; omega
  | 4, _ => simp; omega
  | 5, _ => simp; omega
  | 6, _ => simp; omega
  | 7, _ => simp; omega

theorem rdv_small (zs : List Int) (p k : Nat) (hk : k ≤ 64) : rdv zs p k < 2 ^ k := by
  induction k with
  | zero => simp [rdv]
  | succ k ih =>
    have := ih (by omega)
    have hb := bitv_01 zs (p + k)
    have h0 := (rdv_bd zs p k).1
    have hp : (2 : Int) ^ (k + 1) = 2 ^ k * 2 := Int.pow_succ 2 k
    simp only [rdv]
    have hle : (rdv zs p k * 2 + bitv zs (p + k)) % 18446744073709551616 ≤ rdv zs p k * 2 + bitv zs (p + k) := by omega
    omega

theorem rdv_split (zs : List Int) (p k1 k2 : Nat) (h : k1 + k2 ≤ 64) : rdv zs p (k1 + k2) = rdv zs p k1 * 2 ^ k2 + rdv zs (p + k1) k2 := by
  induction k2 with
  | zero => simp [rdv]
  | succ k2 ih =>
    have ih := ih (by omega)
    have e : k1 + (k2 + 1) = (k1 + k2) + 1 := by omega
    have hs := rdv_small zs p (k1 + k2) (by omega)
    have hs2 := rdv_small zs (p + k1) k2 (by omega)
    have h0 := (rdv_bd zs p (k1 + k2)).1
    have h02 := (rdv_bd zs (p + k1) k2).1
    have hb := bitv_01 zs (p + (k1 + k2))
    have hpw : (2 : Int) ^ (k1 + k2) ≤ 2 ^ 63 := by
      have : (2 : Nat) ^ (k1 + k2) ≤ 2 ^ 63 := Nat.pow_le_pow_right (by decide) (by omega)
      exact_mod_cast this
    have hpw2 : (2 : Int) ^ k2 ≤ 2 ^ 63 := by
      have : (2 : Nat) ^ k2 ≤ 2 ^ 63 := Nat.pow_le_pow_right (by decide) (by omega)
      exact_mod_cast this
    have e2 : p + k1 + k2 = p + (k1 + k2) := by omega
    have hp : (2 : Int) ^ (k2 + 1) = 2 ^ k2 * 2 := Int.pow_succ 2 k2
    rw [e]
    simp only [rdv]
    rw [e2, hp]
    rw [Int.emod_eq_of_lt (by omega) (by omega), Int.emod_eq_of_lt (by omega) (by omega), ih, ← Int.mul_assoc]
    omega

/-- 'v1<<k2 | v2 == w'. -/
theorem split_or (zs : List Int) (p k1 k2 : Nat) (h1 : k1 ≤ 32) (h2 : k2 ≤ 32) : bits .or .u64 (IntKind.u64.wrap (rdv zs p k1 * 2 ^ k2)) (rdv zs (p + k1) k2) = rdv zs p (k1 + k2) := by
  have hs := rdv_small zs p k1 (by omega)
  have hs2 := rdv_small zs (p + k1) k2 (by omega)
  have h0 := (rdv_bd zs p k1).1
  have h02 := (rdv_bd zs (p + k1) k2)
  have hp2 : (0 : Int) < 2 ^ k2 := Int.pow_pos (by decide)
  have hlt : rdv zs p k1 * 2 ^ k2 < 2 ^ 64 := by
    have a : rdv zs p k1 * 2 ^ k2 < 2 ^ k1 * 2 ^ k2 := Int.mul_lt_mul_of_pos_right hs hp2
    have b : (2 : Int) ^ k1 * 2 ^ k2 ≤ 2 ^ 64 := by
      rw [← Int.pow_add]
      have : (2 : Nat) ^ (k1 + k2) ≤ 2 ^ 64 := Nat.pow_le_pow_right (by decide) (by omega)
      exact_mod_cast this
    omega
  have hge : 0 ≤ rdv zs p k1 * 2 ^ k2 := Int.mul_nonneg h0 (Int.le_of_lt hp2)
  rw [wraps_u64 _ hge hlt, bits_join .u64 64 (by decide) wraps_u64 k2 _ _ hge (by simp) hlt h02.1 hs2 (by omega), rdv_split _ _ _ _ (by omega)]

end Go.Proofs.YbulkdvaFmt
