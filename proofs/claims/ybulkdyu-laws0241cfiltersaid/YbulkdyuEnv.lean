/-
  THE WALKS OF slices.Clone AND 'environment'.
-/
import Derived.Test.YbulkdyuDel
import Derived.Test.YbulkdyuApp
namespace Go.Proofs.Ybulkdyu
open Go.RowKit

theorem eql_some (a : Addr) (n c : Nat) (w : World) : (binOp .eql 23 (.slice (some a) n c) (.slice none 0 0)).run Yba.prog w = .ok (.bool false) w :=
  Lib.run_eql_slice_nil w 23 9 (some a) n c 0 0 Yba.underlying23
theorem eql_none (w : World) : (binOp .eql 23 (.slice none 0 0) (.slice none 0 0)).run Yba.prog w = .ok (.bool true) w :=
  Lib.run_eql_slice_nil w 23 9 none 0 0 0 0 Yba.underlying23

theorem strs_one (ss : List ByteArray) : ∀ u ∈ ss.map Value.string, u.oneCell' = true := by
  intro u hu
  obtain ⟨s, _, rfl⟩ := List.mem_map.1 hu
  rfl

theorem row_src {w : World} {g : Nat} {ss : List ByteArray} (h : StrRow w g ss) (c : Nat) : Src Yba.prog 1 23 (.slice (some ⟨g, 0, none⟩) ss.length c) ss.length (ss.map Value.string) w :=
  Src.ofSlice _ Yba.underlying23 ⟨g, 0, none⟩ ss.length c _ (by simp) (by
    intro j u hj
    rw [List.getElem?_map] at hj
    obtain ⟨s, hs, rfl⟩ := Option.map_eq_some_iff.1 hj
    have hjl := (List.getElem?_eq_some_iff.1 hs).1
    have e : (⟨g, 0, none⟩ : Addr).add j = ⟨g, j, none⟩ := by unfold Addr.add; split <;> simp_all
    rw [e, h j hjl]
    simp [List.getD, hs]) (strs_one ss)

theorem own_row {w : World} {base g n cap : Nat} {ss : List ByteArray} (h : w.ownsRow base 9 1 (.slice (some ⟨g, 0, none⟩) n cap) n (ss.map Value.string)) : StrRow w g ss ∧ ss.length = n := by
  have hl := h.1
  rw [List.length_map] at hl
  refine ⟨fun j hj => ?_, by omega⟩
  rw [h.cellAt j (by omega), List.getElem?_map]
  simp [List.getD, List.getElem?_eq_getElem hj]

set_option maxHeartbeats 400000 in
theorem clone_some (g n cap : Nat) (ss : List ByteArray) (w : World) (hn : ss.length = n) (hn' : n ≤ 1024) (hc : StrRow w g ss) (hg : g < w.heap.size) :
    Calls Yba.prog 10 #[.slice (some ⟨g, 0, none⟩) n cap] w fun e w' => ∃ g' cap', e = .returned (.slice (some ⟨g', 0, none⟩) n cap') ∧ w'.ownsRow w.heap.size 9 1 (.slice (some ⟨g', 0, none⟩) n cap') n (ss.map Value.string) ∧ Below w.heap.size w w' := by
  obtain ⟨i0, hi, hz0, hz1, hz2⟩ := info_parts info9
  have hq := eql_some
  have hc2 : StrRow (w.alloc (.cells #[] 9)) g ss := fun j hj => (World.cell?_alloc_past _ _ _ (by exact hg)).trans (hc j hj)
  have hsrc := row_src hc2 cap
  rw [hn] at hsrc
  have hown : (w.alloc (.cells #[] 9)).ownsRow w.heap.size 9 1 (.slice (some ⟨w.heap.size, 0, none⟩) 0 0) 0 [] := World.ownsRow_made w #[] 0 (Nat.le_refl _) (by unfold maxLen; omega) (by simp)
  clear hc hc2
  go_enter Yba.func10, Yba.ntmps10
  go_wp2_with (first | (at_builtin; refine wpList_append_own_src _ rfl (.tmp 5) (.tmp 6) 23 23 rfl w.heap.size 9 i0 (.string ⟨#[]⟩) 1 16 Yba.underlying23 hi hz0 hz1 hz2 rfl _ 0 [] rfl hown _ n _ rfl hsrc ?c1 ?c2 ?c3 ?_))
  case c1 => unfold maxLen; omega
  case c2 => omega
  case c3 => simp
  intro v' w' o1 g1 hnil
  have hB : Below w.heap.size w w' := ((Below.refl _ w).alloc (Nat.le_refl _) _).grown g1.grown (by simp) (by intro k h; cases h; exact Nat.le_refl _)
  obtain ⟨g', cap', hv⟩ : ∃ g' cap', v' = .slice (some ⟨g', 0, none⟩) n cap' := by
    rcases o1.2 with ⟨rfl, _⟩ | ⟨g', cap', _, rfl, _⟩
    · exact absurd rfl hnil
    · exact ⟨g', cap', rfl⟩
  subst hv
  clear hsrc hown hnil g1
  go_wp2
  go_ret
  exact ⟨g', cap', rfl, o1, hB⟩

set_option maxHeartbeats 400000 in
theorem env_some (g n cap : Nat) (ss : List ByteArray) (w : World) (hn : ss.length = n) (hn' : n ≤ 1024) (hsz : ∀ j, (ss.getD j ByteArray.empty).size ≤ 9223372036854775807) (hc : StrRow w g ss) (hg : g < w.heap.size) :
    Calls Yba.prog 6 #[.slice (some ⟨g, 0, none⟩) n cap] w fun e w' => ∃ g' cap', e = .returned (.slice (some ⟨g', 0, none⟩) (kept ss).length cap') ∧ StrRow w' g' (kept ss) ∧ Below w.heap.size w w' := by
  go_enter Yba.func6, Yba.ntmps6
  go_wp2_with fail
  refine (clone_some g n cap ss _ hn hn' hc hg).mono ?_
  rintro e w1 ⟨g', cap', rfl, o1, hB⟩
  obtain ⟨hrow, _⟩ := own_row o1
  have hgg := o1.lt g' rfl
  obtain ⟨hnc, hcm⟩ : n ≤ cap' ∧ cap' ≤ 9223372036854775807 := by
    rcases o1.2 with ⟨h, _⟩ | ⟨_, _, _, h, _, _, h1, h2, _⟩
    · cases h
    · cases h
      exact ⟨h1, by unfold maxLen at h2; omega⟩
  have hfree := o1.frozenAt
  clear o1
  go_wp2_with fail
  refine (del_any g' n cap' ss _ hn hn' hnc hcm hsz hrow hfree).mono ?_
  rintro e w2 ⟨rfl, g2, hrow2⟩
  have hB2 : Below w.heap.size w w2 := hB.grown g2 hB.size (by intro k h; cases h; exact hgg.1)
  clear hrow hfree
  go_wp2
  go_ret
  exact ⟨g', cap', rfl, hrow2, hB2⟩

set_option maxHeartbeats 400000 in
theorem env_nil (w : World) : Calls Yba.prog 6 #[.slice none 0 0] w fun e w' => e = .returned (.slice none 0 0) ∧ w' = w := by
  have hq := eql_none
  go_enter Yba.func6, Yba.ntmps6
  go_wp2
  refine wp_loop_rounds 1 ?_
  rw [rounds_succ]
  go_wp2
  go_ret
  exact ⟨rfl, rfl⟩
end Go.Proofs.Ybulkdyu
