/-
  THE WALKS OF THE TWO WRITERS OF VARINTS (encoding/binary.AppendUvarint; the law's own), onto a row of the call's own.
-/
import Derived.Test.YbulkdvaDoorRows
import Derived.Test.YbulkdvaDoorApp
import Derived.Test.YbulkdvaDoorUvPlain
import Derived.WalkKit
import Derived.WalkSpells
namespace Go.Proofs.YbulkdvaDoor
open Go.RowKit

theorem info5 : (Ybad.prog.info? 5).map (fun i => (i.zero, i.size, i.bytes)) = some (some (.int .u8 0), 1, 1) := by kernel_rfl

abbrev Bytes (w : World) (base : Nat) (v : Value) (xs : List Int) : Prop := w.ownsRow base 5 1 v xs.length (xs.map (Value.int .u8))

theorem one_src (w : World) (z : Int) : Src Ybad.prog 1 23 (.slice (some ⟨w.heap.size, 0, none⟩) 1 1) 1 [.int .u8 z] (w.alloc (.cells #[.int .u8 z] 5)) :=
  Src.ofSlice _ Ybad.underlying23 ⟨w.heap.size, 0, none⟩ 1 1 [.int .u8 z] (by simp) (by
    intro j u hj
    match j, hj with
    | 0, hj => simp at hj; subst hj; simp [Addr.add]) (by intro u hu; simp at hu; subst hu; rfl)

theorem bytes_of {w : World} {base n : Nat} {v : Value} {L : List Value} {zs : List Int} (h : w.ownsRow base 5 1 v n L) (hn : n = zs.length) (hL : L = zs.map (Value.int .u8)) : Bytes w base v zs := by
  subst hn; subst hL; exact h

set_option maxHeartbeats 400000 in
theorem uv_any7 (base : Nat) (v : Value) (xs : List Int) (x : Nat) (w : World) (hx : x < 18446744073709551616) (hown : Bytes w base v xs) (hl : xs.length ≤ 100000) (hbase : base ≤ w.heap.size) :
    Calls Ybad.prog 7 #[v, .int .u64 x] w fun e w' => ∃ v', e = .returned v' ∧ Bytes w' base v' (xs ++ uv x) ∧ Grow w v w' v' := by
  obtain ⟨i0, hi, hz0, hz1, hz2⟩ := info_parts info5
  go_enter Ybad.func7, Ybad.ntmps7
  go_wp2
  go_loopw [0, 1] (fun o i wr => ∃ (f y : Nat) (ys : List Int), y ≤ x ∧ y < 128 ^ (f + 1) ∧ f ≤ 9 ∧ i = .int .u64 y ∧ uv x = ys ++ uvF (f + 1) y ∧ ys.length + (f + 1) ≤ 10 ∧ Bytes wr base o (xs ++ ys) ∧ Grow w v wr o) (fun _ i _ => (intOf i).toNat)
  case atStart => exact ⟨9, x, [], Nat.le_refl _, by omega, by omega, rfl, rfl, by simp, by simpa using hown, Grow.refl _ _⟩
  case round =>
    obtain ⟨f, y, ys, hyx, hyf, hf9, rfl, huv, hlen, hrow, hgr⟩ := hrel
    have hsz := hgr.grown.size
    have HU : Hid (uv x = ys ++ uvF (f + 1) y) := huv
    clear huv
    by_cases hge : 128 ≤ y
    · obtain ⟨f', rfl⟩ : ∃ f', f = f' + 1 := by
        cases f with
        | zero => simp at hyf; omega
        | succ f' => exact ⟨f', rfl⟩
      have hge' : (128 : Int) ≤ (y : Int) := by omega
      go_wp2_with (first | (at_builtin; refine wpList_append_own_src _ rfl (.tmp 7) (.tmp 11) 23 23 rfl base 5 i0 (.int .u8 0) 1 1 Ybad.underlying23 hi hz0 hz1 hz2 rfl _ _ _ rfl (hrow.alloc _) _ 1 _ rfl (one_src wr _) ?c1 ?c2 ?c3 ?_))
      case c1 => unfold maxLen; first | omega | (simp only [List.length_append]; omega) | (simp; omega)
      case c2 => first | omega | (simp only [List.length_append]; omega) | (simp; omega)
      case c3 => first | omega | (simp only [List.length_append]; omega) | (simp; omega)
      · intro v' w1 hown' hg' _
        have R : Bytes w1 base v' (xs ++ (ys ++ [((y % 128 + 128 : Nat) : Int)])) := by
          have hor2 := or128 y
          rw [IntKind.wrap_u8] at hor2
          exact bytes_of hown' (by simp; omega) (by simp only [hor2]; simp)
        have G : Grow w v w1 v' := (hgr.alloc _).trans hg'
        clear hown' hg' hrow hgr
        go_wp2
        go_roundw
        case rel =>
          refine ⟨f', y / 128, ys ++ [((y % 128 + 128 : Nat) : Int)], by omega, ?_, by omega, by go_num, ?_, by simp; omega, R, G⟩
          · rw [Nat.pow_succ] at hyf
            omega
          · rw [HU.out, List.append_assoc]
            congr 1
            conv => lhs; unfold uvF
            rw [if_pos hge]
            rfl
        case measure => simp [intOf]; omega
    · have hlow := low7 y hge
      have hge' : ¬ (128 : Int) ≤ (y : Int) := by omega
      go_wp2_with (first | (at_builtin; refine wpList_append_own_src _ rfl (.tmp 15) (.tmp 18) 23 23 rfl base 5 i0 (.int .u8 0) 1 1 Ybad.underlying23 hi hz0 hz1 hz2 rfl _ _ _ rfl (hrow.alloc _) _ 1 _ rfl (one_src wr _) ?d1 ?d2 ?d3 ?_))
      case d1 => unfold maxLen; first | omega | (simp only [List.length_append]; omega) | (simp; omega)
      case d2 => first | omega | (simp only [List.length_append]; omega) | (simp; omega)
      case d3 => first | omega | (simp only [List.length_append]; omega) | (simp; omega)
      · intro v' w1 hown' hg' _
        have R : Bytes w1 base v' (xs ++ uv x) := by
          rw [HU.out]
          have : uvF (f + 1) y = [(y : Int)] := by unfold uvF; rw [if_neg hge]
          rw [this]
          exact bytes_of hown' (by simp; omega) (by simp)
        have G : Grow w v w1 v' := (hgr.alloc _).trans hg'
        clear hown' hg' hrow hgr
        go_wp2
        go_ret
        exact ⟨_, rfl, R, G⟩

end Go.Proofs.YbulkdvaDoor
