/-
  THE WALK OF 'LawS0241CFilter'.
-/
import Derived.Test.YbulkdyuBuild
import Derived.Deep.QuietTactic
import Derived.BigQuiet
namespace Go.Proofs.Ybulkdyu
open Go.RowKit

theorem kept_at {ss : List ByteArray} {q : Nat} (hq : q < ss.length) (hd : dropB (ss.getD q ByteArray.empty) = false) :
    (kept (ss.take q)).length < (kept ss).length ∧ (kept ss).getD (kept (ss.take q)).length ByteArray.empty = ss.getD q ByteArray.empty := by
  have e1 : kept ss = kept (ss.take (q + 1)) ++ kept (ss.drop (q + 1)) := by
    unfold kept
    rw [← List.filter_append, List.take_append_drop]
  rw [e1, kept_snoc_keep hq hd]
  constructor
  · simp
  · simp [List.getD]

set_option maxHeartbeats 800000 in
theorem law_some (b off n c : Nat) (K : Nat → Int) (R : Nat → ByteArray) (w : World) (hn : n ≤ 1024) (hv : VarRow w b off n K R) (hK : ∀ i, 0 ≤ K i ∧ K i ≤ 255) (hR : ∀ i, (R i).size ≤ 1000000000000000) (hb : 0 < n → b < w.heap.size) (a : Addr) (ha : 0 < n → a = ⟨b, off, none⟩) :
    Calls Yba.prog 3 #[.slice (some a) n c] w fun e w' => e = .returned (.bool true) ∧ Below w.heap.size w w' := by
  have hq := eql_some
  go_enter Yba.func3, Yba.ntmps3
  go_wp2_with fail
  refine (build_some b off n c K R _ hn hv hK hR hb a ha).mono ?_
  rintro e w1 ⟨rfl, hB1, hG1, hc1⟩
  obtain ⟨ss, hss⟩ : ∃ ss, ss = (List.range n).map fun j => pfx (K j) ++ R j := ⟨_, rfl⟩
  have hl : ss.length = n := by rw [hss]; simp
  have hget : ∀ j, j < n → ss.getD j ByteArray.empty = pfx (K j) ++ R j := fun j hj => by
    rw [hss]
    simp [List.getD, hj]
  have hrow : StrRow w1 w.heap.size ss := fun j hj => by
    rw [hl] at hj
    rw [hc1 j hj, hget j hj]
  have hsz : ∀ j, (ss.getD j ByteArray.empty).size ≤ 9223372036854775807 := fun j => by
    by_cases hj : j < n
    · rw [hget j hj]
      have := pfx_size (K j)
      have := hR j
      rw [ByteArray.size_append]
      omega
    · rw [List.getD_eq_getElem?_getD, List.getElem?_eq_none (by omega)]
      simp
  have HR : Hid (StrRow w1 w.heap.size ss) := hrow
  have HZ : Hid (∀ j, (ss.getD j ByteArray.empty).size ≤ 9223372036854775807) := hsz
  have HL : Hid (ss.length = n) := hl
  clear hss hget hc1 hrow hsz hl hv hK hR ha hb
  go_wp2_with fail
  refine (env_some w.heap.size n n ss _ HL.out hn HZ.out HR.out hG1).mono ?_
  rintro e w2 ⟨g', cap', rfl, hrow2, hB2⟩
  obtain ⟨m, hm⟩ : ∃ m, m = (kept ss).length := ⟨_, rfl⟩
  rw [← hm]
  have HM : Hid (m = (kept ss).length) := hm
  have hmn : m ≤ n := by
    have := List.length_filter_le (fun s => !dropB s) ss
    rw [hm, ← HL.out]
    exact this
  have HR1 : Hid (StrRow w2 w.heap.size ss) := fun j hj => (hB2.cell (p := ⟨w.heap.size, j, none⟩) hG1).trans (HR.out j hj)
  have HR2 : Hid (StrRow w2 g' (kept ss)) := hrow2
  have hB : Below w.heap.size w w2 := hB1.trans (hB2.mono hB1.size)
  clear hrow2 hm
  go_wp2_with fail
  go_loopw [5, 6] (fun j i wr => ∃ q c nq : Nat, q ≤ n ∧ i = .int .i64 q ∧ j = .int .i64 c ∧ c = (kept (ss.take q)).length ∧ wr = w2.drewN nq) (fun _ i _ => n - (intOf i).toNat)
  case atStart => exact ⟨0, 0, 0, Nat.zero_le _, rfl, rfl, rfl, rfl⟩
  case round =>
    obtain ⟨q, c, nq, hqn, rfl, rfl, hc, rfl⟩ := hrel
    have HC : Hid (c = (kept (ss.take q)).length) := hc
    have hcq := kept_len ss q
    rw [← hc] at hcq
    clear hc
    by_cases hlt : q < n
    · have c0 := HR1.out q (by rw [HL.out]; exact hlt)
      have z := HZ.out q
      cases d : dropB (ss.getD q ByteArray.empty)
      · obtain ⟨k1, k2⟩ := kept_at (ss := ss) (q := q) (by rw [HL.out]; exact hlt) d
        rw [← HC.out, ← HM.out] at k1
        rw [← HC.out] at k2
        have c1 := HR2.out c (by rw [← HM.out]; exact k1)
        rw [k2] at c1
        have D : Hid (dropB (ss.getD q ByteArray.empty) = false) := d
        clear k2
        generalize ss.getD q ByteArray.empty = s at c0 z d c1
        have hcm : ¬ (m : Int) ≤ (c : Int) := by omega
        have hcmd : decide ((m : Int) ≤ (c : Int)) = false := decide_eq_false hcm
        go_wp2_with (go_at_call 7; refine (keep_any s _ z).mono ?_; rintro e w' ⟨rfl, rfl⟩; rw [d])
        go_quiet (fail)
        go_wp2
        go_roundw
        case rel =>
          refine ⟨q + 1, c + 1, _, by omega, by go_num, by go_num, ?_, rfl⟩
          rw [kept_snoc_keep (by rw [HL.out]; exact hlt) D.out, List.length_append, ← HC.out]
          rfl
        case measure => simp [intOf]; omega
      · have D : Hid (dropB (ss.getD q ByteArray.empty) = true) := d
        generalize ss.getD q ByteArray.empty = s at c0 z d
        go_wp2_with (go_at_call 7; refine (keep_any s _ z).mono ?_; rintro e w' ⟨rfl, rfl⟩; rw [d])
        go_roundw
        case rel =>
          refine ⟨q + 1, c, _, by omega, by go_num, rfl, ?_, rfl⟩
          rw [kept_snoc_drop (by rw [HL.out]; exact hlt) D.out]
          exact HC.out
        case measure => simp [intOf]; omega
    · obtain rfl : q = n := by omega
      have hcm : c = m := by
        rw [HC.out, HM.out]
        congr 1
        rw [← HL.out, List.take_length]
      clear HC hcq
      subst hcm
      go_wp2
      go_ret
      exact ⟨by simp, hB.trans ⟨rfl, rfl, rfl, Nat.le_refl _, fun _ _ => rfl⟩⟩

set_option maxHeartbeats 400000 in
theorem law_nil (w : World) : Calls Yba.prog 3 #[.slice none 0 0] w fun e w' => e = .returned (.bool true) ∧ Below w.heap.size w w' := by
  have hq := eql_none
  go_enter Yba.func3, Yba.ntmps3
  go_wp2_with fail
  refine (build_nil _).mono ?_
  rintro e w1 ⟨rfl, rfl⟩
  go_wp2_with fail
  refine (env_nil _).mono ?_
  rintro e w2 ⟨rfl, rfl⟩
  go_wp2
  refine wp_loop_rounds 1 ?_
  rw [rounds_succ]
  go_wp2
  go_ret
  exact ⟨rfl, Below.refl _ _⟩

theorem law_long (a : Option Addr) (n c : Nat) (w : World) (h : 1024 < n) : Calls Yba.prog 3 #[.slice a n c] w fun e w' => e = .returned (.bool true) ∧ Below w.heap.size w w' := by
  have h' : (1024 : Int) < (n : Int) := by omega
  go_enter Yba.func3, Yba.ntmps3
  go_wp2
  go_ret
  exact ⟨rfl, Below.refl _ _⟩
end Go.Proofs.Ybulkdyu
