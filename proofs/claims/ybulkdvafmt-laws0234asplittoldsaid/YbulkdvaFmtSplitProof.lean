/-
  'Rows.LawS0234ASplitToldSaid' PROVED. The law's own walk never comes to fmt (there are always bits enough): the told text plays no part in it.
-/
import Derived.Test.YbulkdvaFmtSplitW
import Derived.Test.YbulkdvaFmtOpen
import Derived.Test.YbulkdvaFmtCards
import Derived.ProofKit
import Derived.Carry
import Derived.Stop.JoinedAt
import Derived.Stop.JoinedTold
import Derived.SevenToldRow
namespace Go.Proofs.YbulkdvaFmt
open Go.ChangeShapes Go.WideShapes Go.ChangeAt Go.RowKit
open Go.Extern.Stop Go.Stop Go.Extern

theorem own : ownKnob Ybaf.prog.godebug = none := by kernel_rfl
theorem laidOut : laidOutB Ybaf.pinned.checked.prog = true := by kernel_rfl
theorem stops : Ybaf.pinned.checked.prog.stops = Rows.lawS0234ASplitRow.stops := by kernel_rfl
theorem stopKnobs : Ybaf.pinned.checked.prog.stopKnobs = [] := by kernel_rfl
theorem quiet (os : Os) : Stop.quiet Ybaf.pinned.checked.prog os := by
  intro k hk
  rw [stopKnobs] at hk
  cases hk

theorem split_long (a0 : Option Addr) (len cap : Nat) (a1 c1 c2 : Int) (w : World) (hlen : 1024 < len) :
    Calls Ybaf.prog 4 #[.slice a0 len cap, .int .u64 a1, .int .u8 c1, .int .u8 c2] w fun e w' => e = .returned (.bool true) ∧ Below w.heap.size w w' := by
  have hl : (1024 : Int) < (len : Int) := by omega
  go_enter Ybaf.func4, Ybaf.ntmps4
  go_wp2
  go_ret
  exact ⟨rfl, Below.refl _ _⟩

theorem nums (len : Nat) (a1 : Int) : ∃ st : Nat, a1 % ((len : Int) * 8 + 1) = st ∧ st ≤ len * 8 := by
  have h0 := Int.emod_nonneg a1 (show ((len : Int) * 8 + 1) ≠ 0 by omega)
  have h1 := Int.emod_lt_of_pos a1 (show 0 < ((len : Int) * 8 + 1) by omega)
  exact ⟨(a1 % ((len : Int) * 8 + 1)).toNat, by omega, by omega⟩

theorem split_all (a0 : Option Addr) (len cap : Nat) (zs : List Int) (a1 c1 c2 : Int) (w : World)
    (hsrc : Src Ybaf.prog 1 22 (.slice a0 len cap) len (zs.map (Value.int .u8)) w) (hz : ∀ j, 0 ≤ zs.getD j 0 ∧ zs.getD j 0 < 256)
    (h1 : 0 ≤ a1 ∧ a1 ≤ 18446744073709551615) (hc1 : 0 ≤ c1 ∧ c1 ≤ 255) (hc2 : 0 ≤ c2 ∧ c2 ≤ 255) :
    Calls Ybaf.prog 4 #[.slice a0 len cap, .int .u64 a1, .int .u8 c1, .int .u8 c2] w fun e w' => e = .returned (.bool true) ∧ Below w.heap.size w w' := by
  by_cases hlen : len ≤ 1024
  · obtain ⟨st, hst, hsl⟩ := nums len a1
    have e1 : c1 % 33 = ((c1 % 33).toNat : Int) := by omega
    have e2 : c2 % 33 = ((c2 % 33).toNat : Int) := by omega
    have b1 : (c1 % 33).toNat ≤ 32 := by omega
    have b2 : (c2 % 33).toNat ≤ 32 := by omega
    generalize (c1 % 33).toNat = d1 at e1 b1
    generalize (c2 % 33).toNat = d2 at e2 b2
    obtain ⟨k1, hk1⟩ : ∃ k1 : Nat, (k1 = len * 8 - st ∧ len * 8 - st < d1) ∨ (k1 = d1 ∧ d1 ≤ len * 8 - st) := by
      by_cases h : len * 8 - st < d1
      · exact ⟨_, .inl ⟨rfl, h⟩⟩
      · exact ⟨_, .inr ⟨rfl, by omega⟩⟩
    obtain ⟨k2, hk2⟩ : ∃ k2 : Nat, (len * 8 - st = k1 + k2 ∧ k2 < d2) ∨ (k2 = d2 ∧ k1 + d2 ≤ len * 8 - st) := by
      by_cases h : len * 8 - st - k1 < d2
      · exact ⟨len * 8 - st - k1, .inl ⟨by omega, h⟩⟩
      · exact ⟨_, .inr ⟨rfl, by omega⟩⟩
    exact split_walk a0 len cap zs a1 c1 c2 w hlen hsrc hz h1.1 (by omega) hc1.1 (by omega) hc2.1 (by omega) st (len * 8 - st) d1 d2 k1 k2 hst (by omega) e1 e2 hk1 hk2
  · exact split_long a0 len cap a1 c1 c2 w (by omega)

set_option maxRecDepth 100000 in
theorem split_lifted (os : Os) (started : os.Started) (H : Type) (enc : TypeId × Value → H) :
    ReturnsInTold none {} Ybaf.checked os 4 .any Input.okWide ((OpenSpec.ofChange Rows.lawS0234ASplitSpec).preRow enc Ybaf.prog Ybaf.f4 [] false [])
      (fun F => ((OpenSpec.ofChange Rows.lawS0234ASplitSpec).at F).post enc Ybaf.prog Ybaf.f4 false true false false) (aloneAtReturn Ybaf.prog) nothingAlways := by
  refine returnsInTold_of_row (C := Ybaf.checked) (s := OpenSpec.ofChange Rows.lawS0234ASplitSpec) (by kernel_rfl) own started (by kernel_rfl) Ybaf.func4
    (OpenSpec.witness_stopped (enc := enc) (C := Ybaf.checked) false ⟨#[], #[.slice none 0 0, .int .u64 0, .int .u8 0, .int .u8 0], []⟩ 8 (by kernel_rfl) (by kernel_rfl) (by kernel_rfl) (by kernel_rfl)) ?_
  intro F W base args ds gs before _ hF hval0 hW _ _ hsz _ _
  have hval : ∀ (j : Nat) t v, Ybaf.f4.params[j]? = some t → args[j]? = some v → Value.okWide Ybaf.prog W .any base t v := hval0
  have hW' := hW
  obtain ⟨p, q, hA0, hV, rfl, _, _⟩ := hW
  have hA : DataW.TrodAll enc Ybaf.prog W 0 (fun _ => true) true Ybaf.f4.params.toList args.toList ds p := hA0
  rw [Ybaf.params4] at hA hval
  obtain ⟨v0, vs0, d0, ds0, p0, q0, hargs, rfl, rfl, h0, r0⟩ := trodAll_cons hA
  obtain ⟨v1, vs1, d1, ds1, p1, q1, rfl, rfl, rfl, h1, r1⟩ := trodAll_cons r0
  obtain ⟨v2, vs2, d2, ds2, p2, q2, rfl, rfl, rfl, h2, r2⟩ := trodAll_cons r1
  obtain ⟨v3, vs3, d3, ds3, p3, q3, rfl, rfl, rfl, h3, r3⟩ := trodAll_cons r2
  obtain ⟨rfl, rfl, rfl⟩ := trodAll_nil r3
  obtain rfl : args = #[v0, v1, v2, v3] := by cases args; simp_all
  obtain ⟨rfl, rfl⟩ := trodVars_none hV
  obtain ⟨a0, len0, cap0, rfl⟩ := okWide_slice Ybaf.underlying22 (hval 0 22 v0 rfl rfl)
  have k0 := h0
  have lt0 : ∀ x ∈ p0, x.block < W.heap.size := by obtain ⟨m, hm⟩ := k0; exact DataW.trod_lt m _ _ _ hm
  obtain ⟨zs, hsrc, hz⟩ := bytes_in h0
  obtain ⟨a1, rfl, rfl, rfl, w1⟩ := open_int Ybaf.underlying23 (hval 1 23 v1 rfl rfl) h1
  obtain ⟨a2, rfl, rfl, rfl, w2⟩ := open_int Ybaf.underlying5 (hval 2 5 v2 rfl rfl) h2
  obtain ⟨a3, rfl, rfl, rfl, w3⟩ := open_int Ybaf.underlying5 (hval 3 5 v3 rfl rfl) h3
  clear hA0 hval0
  refine (split_all a0 len0 cap0 zs a1 a2 a3 W hsrc hz (bounds_u64 w1) (bounds_u8 w2) (bounds_u8 w3)).mono fun e W' ⟨he, bel⟩ => ?_
  subst he
  exact ⟨_, rfl, _, _, _, [], _, [], hW', trodAll_mk1 (shut_bool Ybaf.underlying4 _), (trodAll_cons_mk (Below.trod laidOut (by kernel_rfl) (of_decide_eq_true (by kernel_rfl)) k0 bel lt0) (trodAll_cons_mk (shut_int Ybaf.underlying23 w1) (trodAll_cons_mk (shut_int Ybaf.underlying5 w2) (trodAll_cons_mk (shut_int Ybaf.underlying5 w3) trodAll_mk0)))), rfl, bel.frame _, fun h => by cases h⟩

/-- THE STATEMENT. -/
theorem split_proved : Rows.LawS0234ASplitToldSaid :=
  Claim7.holds_of_told_any 4 Ybaf.f4 _ [] [] _ _ _ (by kernel_rfl) rfl rfl rfl laidOut (by kernel_rfl) rfl ⟨rfl, rfl, rfl, rfl, rfl, rfl, rfl⟩ rfl rfl (by kernel_rfl) (by kernel_rfl) Ybaf.func4 (by kernel_rfl)
    (of_decide_eq_true (by kernel_rfl)) (by unfold Func.isWrapper; first | (rw [if_pos (by decide +kernel)]; kernel_rfl) | (rw [if_neg (by decide +kernel)]; exact ⟨rfl, rfl⟩)) stops.symm rfl stopKnobs.symm (by kernel_rfl)
    (by kernel_rfl) (by kernel_rfl) (by kernel_rfl) (by kernel_rfl) (by kernel_rfl) (by kernel_rfl) (by kernel_rfl) (by kernel_rfl) (by kernel_rfl) rfl (by kernel_rfl) rfl rfl
    rfl rfl
    rfl (by kernel_rfl) (by kernel_rfl) (by kernel_rfl) (by decide) (by kernel_rfl)
    (OpenClaim.moreEntering_of (by kernel_rfl) (by kernel_rfl) (by kernel_rfl) (by kernel_rfl) (by kernel_rfl) (by kernel_rfl) (by kernel_rfl) (by kernel_rfl) (by kernel_rfl) (by kernel_rfl))
    ⟨_, WideRow.started_initial, quiet _⟩
    (fun os started _ H enc _ => split_lifted os started H enc)
#print axioms split_proved
end Go.Proofs.YbulkdvaFmt
