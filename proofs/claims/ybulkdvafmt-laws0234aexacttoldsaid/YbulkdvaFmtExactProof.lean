/-
  'Rows.LawS0234AExactToldSaid' PROVED. The walk holds for every F (whatever text fmt gives): the law does not look at the text.
-/
import Derived.Test.YbulkdvaFmtExactW
import Derived.Test.YbulkdvaFmtOpen
import Derived.Test.YbulkdvaFmtCards
import Derived.ProofKit
import Derived.Carry
import Derived.Stop.JoinedAt
import Derived.Stop.JoinedTold
import Derived.SevenToldRow
namespace Go.Proofs.YbulkdvaFmt.Ex
open Go.ChangeShapes Go.WideShapes Go.ChangeAt Go.RowKit
open Go.Extern.Stop Go.Stop Go.Extern

theorem own : ownKnob Ybaf.prog.godebug = none := by kernel_rfl
theorem laidOut : laidOutB Ybaf.pinned.checked.prog = true := by kernel_rfl
theorem stops : Ybaf.pinned.checked.prog.stops = Rows.lawS0234AExactRow.stops := by kernel_rfl
theorem stopKnobs : Ybaf.pinned.checked.prog.stopKnobs = [] := by kernel_rfl
theorem quiet (os : Os) : Stop.quiet Ybaf.pinned.checked.prog os := by
  intro k hk
  rw [stopKnobs] at hk
  cases hk

theorem exact_long (a0 : Option Addr) (len cap : Nat) (a1 c1 c2 : Int) (w : World) (hlen : 1024 < len) :
    Calls Ybaf.prog 3 #[.slice a0 len cap, .int .u64 a1, .int .i64 c1, .int .i64 c2] w fun e w' => e = .returned (.bool true) ∧ Below w.heap.size w w' := by
  have hl : (1024 : Int) < (len : Int) := by omega
  go_enter Ybaf.func3, Ybaf.ntmps3
  go_wp2
  go_ret
  exact ⟨rfl, Below.refl _ _⟩

theorem nums (len : Nat) (a1 : Int) : ∃ st : Nat, a1 % ((len : Int) * 8 + 1) = st ∧ st ≤ len * 8 := by
  have h0 := Int.emod_nonneg a1 (show ((len : Int) * 8 + 1) ≠ 0 by omega)
  have h1 := Int.emod_lt_of_pos a1 (show 0 < ((len : Int) * 8 + 1) by omega)
  exact ⟨(a1 % ((len : Int) * 8 + 1)).toNat, by omega, by omega⟩

theorem exact_all (F : Interp) (a0 : Option Addr) (len cap : Nat) (zs : List Int) (a1 c1 c2 : Int) (w : World) (hF : F.answers w.tape)
    (hsrc : Src Ybaf.prog 1 22 (.slice a0 len cap) len (zs.map (Value.int .u8)) w) (hz : ∀ j, 0 ≤ zs.getD j 0 ∧ zs.getD j 0 < 256)
    (h1 : 0 ≤ a1 ∧ a1 ≤ 18446744073709551615) (hc1 : -9223372036854775808 ≤ c1 ∧ c1 ≤ 9223372036854775807) :
    Calls Ybaf.prog 3 #[.slice a0 len cap, .int .u64 a1, .int .i64 c1, .int .i64 c2] w fun e w' => e = .returned (.bool true) ∧ Below w.heap.size w w' := by
  by_cases hlen : len ≤ 1024
  · obtain ⟨st, hst, hsl⟩ := nums len a1
    exact exact_walk F a0 len cap zs a1 c1 c2 w hF hlen hsrc hz h1.1 (by omega) hc1.1 hc1.2 st (len * 8 - st) hst (by omega)
  · exact exact_long a0 len cap a1 c1 c2 w (by omega)

set_option maxRecDepth 100000 in
theorem exact_lifted (os : Os) (started : os.Started) (H : Type) (enc : TypeId × Value → H) :
    ReturnsInTold none {} Ybaf.checked os 3 .any Input.okWide ((OpenSpec.ofChange Rows.lawS0234AExactSpec).preRow enc Ybaf.prog Ybaf.f3 [] false [])
      (fun F => ((OpenSpec.ofChange Rows.lawS0234AExactSpec).at F).post enc Ybaf.prog Ybaf.f3 false true false false) (aloneAtReturn Ybaf.prog) nothingAlways := by
  refine returnsInTold_of_row (C := Ybaf.checked) (s := OpenSpec.ofChange Rows.lawS0234AExactSpec) (by kernel_rfl) own started (by kernel_rfl) Ybaf.func3
    (OpenSpec.witness_stopped (enc := enc) (C := Ybaf.checked) false ⟨#[], #[.slice none 0 0, .int .u64 0, .int .i64 0, .int .i64 0], []⟩ 8 (by kernel_rfl) (by kernel_rfl) (by kernel_rfl) (by kernel_rfl)) ?_
  intro F W base args ds gs before _ hF hval0 hW _ _ hsz _ _
  have hval : ∀ (j : Nat) t v, Ybaf.f3.params[j]? = some t → args[j]? = some v → Value.okWide Ybaf.prog W .any base t v := hval0
  have hW' := hW
  obtain ⟨p, q, hA0, hV, rfl, _, _⟩ := hW
  have hA : DataW.TrodAll enc Ybaf.prog W 0 (fun _ => true) true Ybaf.f3.params.toList args.toList ds p := hA0
  rw [Ybaf.params3] at hA hval
  obtain ⟨v0, vs0, d0, ds0, p0, q0, hargs, rfl, rfl, h0, r0⟩ := trodAll_cons hA
  obtain ⟨v1, vs1, d1, ds1, p1, q1, rfl, rfl, rfl, h1, r1⟩ := trodAll_cons r0
  obtain ⟨v2, vs2, d2, ds2, p2, q2, rfl, rfl, rfl, h2, r2⟩ := trodAll_cons r1
  obtain ⟨v3, vs3, d3, ds3, p3, q3, rfl, rfl, rfl, h3, r3⟩ := trodAll_cons r2
  obtain ⟨rfl, rfl, rfl⟩ := trodAll_nil r3
  obtain rfl : args = #[v0, v1, v2, v3] := by cases args; simp_all
  obtain ⟨rfl, rfl⟩ := trodVars_none hV
  obtain ⟨a0, len0, cap0, rfl⟩ := okWide_slice Ybaf.underlying22 (hval 0 22 v0 rfl rfl)
  have k0 := h0
  have lt0 : ∀ x ∈ p0, x.block < W.heap.size := by obtain ⟨m, hm⟩ := k0; exact DataW.trod_lt m _ _ _ hm
  obtain ⟨zs, hsrc, hz⟩ := bytes_in h0
  obtain ⟨a1, rfl, rfl, rfl, w1⟩ := open_int Ybaf.underlying23 (hval 1 23 v1 rfl rfl) h1
  obtain ⟨a2, rfl, rfl, rfl, w2⟩ := open_int Ybaf.underlying3 (hval 2 3 v2 rfl rfl) h2
  obtain ⟨a3, rfl, rfl, rfl, w3⟩ := open_int Ybaf.underlying3 (hval 3 3 v3 rfl rfl) h3
  clear hA0 hval0
  refine (exact_all F.told a0 len0 cap0 zs a1 a2 a3 W hF hsrc hz (bounds_u64 w1) (bounds_i64 w2)).mono fun e W' ⟨he, bel⟩ => ?_
  subst he
  exact ⟨_, rfl, _, _, _, [], _, [], hW', trodAll_mk1 (shut_bool Ybaf.underlying4 _), (trodAll_cons_mk (Below.trod laidOut (by kernel_rfl) (of_decide_eq_true (by kernel_rfl)) k0 bel lt0) (trodAll_cons_mk (shut_int Ybaf.underlying23 w1) (trodAll_cons_mk (shut_int Ybaf.underlying3 w2) (trodAll_cons_mk (shut_int Ybaf.underlying3 w3) trodAll_mk0)))), rfl, bel.frame _, fun h => by cases h⟩

/-- THE STATEMENT. -/
theorem exact_proved : Rows.LawS0234AExactToldSaid :=
  Claim7.holds_of_told_any 3 Ybaf.f3 _ [] [] _ _ _ (by kernel_rfl) rfl rfl rfl laidOut (by kernel_rfl) rfl ⟨rfl, rfl, rfl, rfl, rfl, rfl, rfl⟩ rfl rfl (by kernel_rfl) (by kernel_rfl) Ybaf.func3 (by kernel_rfl)
    (of_decide_eq_true (by kernel_rfl)) (by unfold Func.isWrapper; first | (rw [if_pos (by decide +kernel)]; kernel_rfl) | (rw [if_neg (by decide +kernel)]; exact ⟨rfl, rfl⟩)) stops.symm rfl stopKnobs.symm (by kernel_rfl)
    (by kernel_rfl) (by kernel_rfl) (by kernel_rfl) (by kernel_rfl) (by kernel_rfl) (by kernel_rfl) (by kernel_rfl) (by kernel_rfl) (by kernel_rfl) rfl (by kernel_rfl) rfl rfl
    rfl rfl
    rfl (by kernel_rfl) (by kernel_rfl) (by kernel_rfl) (by decide) (by kernel_rfl)
    (OpenClaim.moreEntering_of (by kernel_rfl) (by kernel_rfl) (by kernel_rfl) (by kernel_rfl) (by kernel_rfl) (by kernel_rfl) (by kernel_rfl) (by kernel_rfl) (by kernel_rfl) (by kernel_rfl))
    ⟨_, WideRow.started_initial, quiet _⟩
    (fun os started _ H enc _ => exact_lifted os started H enc)
end Go.Proofs.YbulkdvaFmt.Ex
namespace Go.Proofs.YbulkdvaFmt
/-- THE STATEMENT, under the seat's own namespace. -/
theorem exact_told : Rows.LawS0234AExactToldSaid := Ex.exact_proved
#print axioms exact_told
end Go.Proofs.YbulkdvaFmt
