/-
  THE PLAIN LAW: where transaction v ends, after the first k operations: (N, 0) as long as nothing has ended it; else the index and the kind of the first commit (3) or abort (4) of v.
-/
namespace Go.Proofs.Ybulkdxs

def st (kd nd : Nat → Nat) (N v : Nat) : Nat → Nat × Nat
  | 0 => (N, 0)
  | k + 1 => if nd k = v ∧ (kd k = 3 ∨ kd k = 4) ∧ (st kd nd N v k).2 = 0 then (k, kd k) else st kd nd N v k

theorem st_hit {kd nd : Nat → Nat} {N v k : Nat} (h1 : nd k = v) (h2 : kd k = 3 ∨ kd k = 4) (h3 : (st kd nd N v k).2 = 0) : st kd nd N v (k + 1) = (k, kd k) := if_pos ⟨h1, h2, h3⟩
theorem st_miss {kd nd : Nat → Nat} {N v k : Nat} (h : ¬ (nd k = v ∧ (kd k = 3 ∨ kd k = 4) ∧ (st kd nd N v k).2 = 0)) : st kd nd N v (k + 1) = st kd nd N v k := if_neg h

theorem st_none {kd nd : Nat → Nat} {N v k : Nat} (h : (st kd nd N v k).2 = 0) : st kd nd N v k = (N, 0) := by
  induction k with
  | zero => rfl
  | succ k ih =>
    by_cases c : nd k = v ∧ (kd k = 3 ∨ kd k = 4) ∧ (st kd nd N v k).2 = 0
    · rw [st_hit c.1 c.2.1 c.2.2] at h
      simp at h
      omega
    · rw [st_miss c] at h ⊢
      exact ih h

theorem st_stay {kd nd : Nat → Nat} {N v k : Nat} (h : (st kd nd N v k).2 ≠ 0) (j : Nat) : st kd nd N v (k + j) = st kd nd N v k := by
  induction j with
  | zero => rfl
  | succ j ih =>
    rw [← Nat.add_assoc, st_miss, ih]
    rw [ih]
    exact fun c => h c.2.2

theorem st_stay' {kd nd : Nat → Nat} {N v k : Nat} (h : (st kd nd N v k).2 ≠ 0) (hk : k ≤ N) : st kd nd N v N = st kd nd N v k := by
  have := st_stay h (N - k)
  rwa [Nat.add_sub_cancel' hk] at this

theorem st_le {kd nd : Nat → Nat} {N v k : Nat} (hk : k ≤ N) : (st kd nd N v k).1 ≤ N := by
  induction k with
  | zero => exact Nat.le_refl _
  | succ k ih =>
    by_cases c : nd k = v ∧ (kd k = 3 ∨ kd k = 4) ∧ (st kd nd N v k).2 = 0
    · rw [st_hit c.1 c.2.1 c.2.2]
      show k ≤ N
      omega
    · rw [st_miss c]
      exact ih (by omega)

theorem st_kind {kd nd : Nat → Nat} {N v k : Nat} : (st kd nd N v k).2 = 0 ∨ (st kd nd N v k).2 = 3 ∨ (st kd nd N v k).2 = 4 := by
  induction k with
  | zero => exact .inl rfl
  | succ k ih =>
    by_cases c : nd k = v ∧ (kd k = 3 ∨ kd k = 4) ∧ (st kd nd N v k).2 = 0
    · rw [st_hit c.1 c.2.1 c.2.2]
      exact .inr c.2.1
    · rw [st_miss c]
      exact ih

end Go.Proofs.Ybulkdxs
