/-
  THE WALK OF encoding/binary.Uvarint AT A SLICE THAT BEGINS WITH A VARINT.
-/
import Derived.Test.YbulkdvaDoorUv
import Derived.Test.YbulkdvaDoorDecPlain
namespace Go.Proofs.YbulkdvaDoor
open Go.RowKit

set_option maxRecDepth 10000 in
set_option maxHeartbeats 400000 in
theorem dec_any (g off n cap : Nat) (l rest : List Int) (x : Nat) (w : World) (hx : x < 18446744073709551616) (hl : l = uv x ++ rest) (hn : l.length = n) (hn' : n ≤ 100000)
    (hc : ∀ j, j < n → w.cell? ⟨g, off + j, none⟩ = some (.int .u8 (l.getD j 0))) :
    Calls Ybad.prog 8 #[.slice (some ⟨g, off, none⟩) n cap] w fun e w' => e = .returned (.tuple #[.int .u64 x, .int .i64 (uv x).length]) ∧ w' = w := by
  have hul := uv_len x
  have HL : Hid (l = uv x ++ rest) := hl
  clear hl
  go_enter Ybad.func8, Ybad.ntmps8
  go_wp2
  go_loop [4, 5, 10] (fun a s i => ∃ (k f y acc : Nat) (ys : List Int), k + f = 9 ∧ i = .int .i64 k ∧ s = .int .u64 (7 * k : Nat) ∧ a = .int .u64 acc ∧ ys.length = k ∧ uv x = ys ++ uvF (f + 1) y ∧ acc < 128 ^ k ∧ y < 128 ^ (f + 1) ∧ x = acc + y * 128 ^ k) (fun _ _ i => 10 - (intOf i).toNat)
  case atStart => exact ⟨0, 9, x, 0, [], rfl, rfl, rfl, rfl, rfl, rfl, by simp, by omega, by simp⟩
  case round =>
    obtain ⟨k, f, y, acc, ys, hkf, rfl, rfl, rfl, hys, huv, hacc, hyf, hxe⟩ := hrel
    have H1 : Hid (uv x = ys ++ uvF (f + 1) y) := huv
    have H2 : Hid (x = acc + y * 128 ^ k) := hxe
    have H3 : Hid (ys.length = k) := hys
    have H4 : Hid (acc < 128 ^ k) := hacc
    have H5 : Hid (y < 128 ^ (f + 1)) := hyf
    have H6 : Hid (k + f = 9) := hkf
    have hk9 : k ≤ 9 := by omega
    have hxs : acc ≤ x ∧ y ≤ x := by have := le_mulpow y k; omega
    have hax : acc < 18446744073709551616 := by omega
    have hyx : y < 18446744073709551616 := by omega
    clear huv hxe hys hacc hyf hkf hxs
    by_cases hge : 128 ≤ y
    · obtain ⟨f', rfl⟩ : ∃ f', f = f' + 1 := by
        cases f with
        | zero => have := H5.out; simp at this; omega
        | succ f' => exact ⟨f', rfl⟩
      obtain ⟨hkn, hbk⟩ := at_more HL.out H1.out H3.out hge
      have hkn' : k < n := by omega
      have hcc : w.cell? ⟨g, off + k, none⟩ = some (.int .u8 ((y % 128 + 128 : Nat) : Int)) := by rw [hc k hkn', hbk]
      clear hc hkn hbk
      go_wp2
      go_round
      case rel =>
        refine ⟨k + 1, f', y / 128, acc + y % 128 * 128 ^ k, ys ++ [((y % 128 + 128 : Nat) : Int)], by have := H6.out; omega, by go_num, by go_num, ?_, by have := H3.out; simp; omega, uv_next H1.out hge, step_acc acc y k H4.out, ?_, H2.out.trans (step_x acc y k)⟩
        · exact congrArg (Value.int .u64) (step_dec acc y k H4.out (by have := H2.out; omega))
        · have := H5.out
          rw [Nat.pow_succ] at this
          omega
      case measure => simp [intOf]; omega
    · obtain ⟨hkn, hbk, hlen⟩ := at_last HL.out H1.out H3.out hge
      have hkn' : k < n := by omega
      have hcc : w.cell? ⟨g, off + k, none⟩ = some (.int .u8 (y : Int)) := by rw [hc k hkn', hbk]
      have HLn : Hid ((uv x).length = k + 1) := hlen
      clear hc hkn hbk hlen
      by_cases hk : k = 9
      · subst hk
        have hy1 : y ≤ 1 := last_y acc y (by have := H2.out; omega)
        go_wp2
        go_ret2
        refine ⟨?_, rfl⟩
        have e1 := or_join acc y 9 H4.out (by have := H2.out; omega)
        rw [← H2.out] at e1
        rw [HLn.out, ← e1]
        rfl
      · have hk9' : ((k : Int) == 9) = false := by simp; omega
        go_wp2
        go_ret2
        refine ⟨?_, rfl⟩
        have e1 := or_join_w acc y k H4.out (by have := H2.out; omega)
        rw [← H2.out] at e1
        rw [HLn.out, ← e1]
        rfl
end Go.Proofs.YbulkdvaDoor
