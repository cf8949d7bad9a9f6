/-
  FROM A SLICE OF BYTES THAT CAME IN TO WHAT THE WALKS ASK ('Src': what an append of it yields; each element a byte).
-/
import Derived.Test.YbulkdvaFmtApp
import Derived.Test.YbulkdvaFmtRows
import Derived.ProofKit
import Derived.OpenShut
namespace Go.Proofs.YbulkdvaFmt
open Go.ChangeShapes Go.WideShapes Go.ChangeAt Go.RowKit

theorem bytes_in {W : World} {H : Type} {enc : TypeId × Value → H} {d0 : DataW H} {p0 : List MemPlace} {a0 : Option Addr} {len cap : Nat} {base : Nat} {sp : Nat → Bool} {held : Bool}
    (h0 : DataW.Trod enc Ybaf.prog W base sp held 22 (.slice a0 len cap) d0 p0) :
    ∃ zs : List Int, Src Ybaf.prog 1 22 (.slice a0 len cap) len (zs.map (Value.int .u8)) W ∧ ∀ j, 0 ≤ zs.getD j 0 ∧ zs.getD j 0 < 256 := by
  obtain ⟨fuel, hf⟩ := h0
  rcases open_ints Ybaf.underlying22 Ybaf.underlying5 (by kernel_rfl) hf with ⟨hcs, _⟩ | ⟨x, l, c, zs, hcs, _, hl, hm, hz, _, hcell, hwz⟩
  · simp [Value.cells] at hcs
    obtain ⟨rfl, rfl, rfl⟩ := hcs
    exact ⟨[], Src.ofNil _ Ybaf.underlying22 _, fun j => by simp⟩
  · simp [Value.cells] at hcs
    obtain ⟨rfl, rfl, rfl⟩ := hcs
    have hlz : len ≤ zs.length := by split at hz <;> omega
    refine ⟨zs.take len, Src.ofSlice _ Ybaf.underlying22 x len cap _ (by simp; omega) ?_ (ints_oneCell _ _), ?_⟩
    · intro j u hj
      rw [List.getElem?_map] at hj
      obtain ⟨z, hz1, rfl⟩ := Option.map_eq_some_iff.1 hj
      have hjl : j < len := by
        have := (List.getElem?_eq_some_iff.1 hz1).1
        simp at this
        omega
      rw [hcell j (by omega)]
      rw [List.getElem?_take_of_lt hjl] at hz1
      simp [List.getD, hz1]
    · intro j
      by_cases hj : j < (zs.take len).length
      · have hmem : (zs.take len).getD j 0 ∈ zs := by
          rw [List.getD_eq_getElem?_getD, List.getElem?_eq_getElem hj]
          exact List.mem_of_mem_take (List.getElem_mem hj)
        have := bounds_u8 (hwz _ hmem)
        omega
      · rw [List.getD_eq_getElem?_getD, List.getElem?_eq_none (by omega)]
        simp
end Go.Proofs.YbulkdvaFmt
