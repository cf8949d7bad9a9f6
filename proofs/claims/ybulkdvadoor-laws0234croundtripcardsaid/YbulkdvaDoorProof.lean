/-
  'Rows.LawS0234CRoundTripCardSaid' PROVED: the row, then the tied card by the builder's one call. The listed variable (errHeader) is named on branches that the law never runs.
-/
import Derived.Test.YbulkdvaDoorLaw
import Derived.Test.YbulkdvaDoorCards
import Derived.Test.YbulkdvaDoorTie
import Derived.ProofKit
import Derived.OpenShut
import Derived.ShutString
import Derived.LaidMore
import Derived.OpenVars
import Derived.SevenTiedAt
import Derived.Stop.Joined
namespace Go.Proofs.YbulkdvaDoor
open Go.ChangeShapes Go.WideShapes Go.ChangeAt Go.RowKit
open Go.ChangeMaps (open_string shut_string)

theorem own : ownKnob Ybad.prog.godebug = none := by kernel_rfl
theorem laidOut : laidOutB Ybad.prog = true := by kernel_rfl

/-- What the walk asks of a slice of bytes that came in. -/
theorem bytes_in {W : World} {H : Type} {enc : TypeId × Value → H} {d0 : DataW H} {p0 : List MemPlace} {a0 : Option Addr} {len cap : Nat} {base : Nat} {sp : Nat → Bool} {held : Bool}
    (h0 : DataW.Trod enc Ybad.prog W base sp held 23 (.slice a0 len cap) d0 p0) :
    ∃ zs : List Int, zs.length = len ∧ ∀ (w' : World), (∀ b o, b < W.heap.size → w'.cell? ⟨b, o, none⟩ = W.cell? ⟨b, o, none⟩) →
      Src Ybad.prog 1 23 (.slice a0 len cap) len (zs.map (Value.int .u8)) w' ∧ (convert 23 9 (.slice a0 len cap)).run Ybad.prog w' = .ok (.string (strOfNums zs)) w' := by
  obtain ⟨fuel, hf⟩ := h0
  rcases open_ints Ybad.underlying23 Ybad.underlying5 (by kernel_rfl) hf with ⟨hcs, _⟩ | ⟨x, l, c, z, hcs, _, hl, hm, hz, _, hcell, hwz⟩
  · simp [Value.cells] at hcs
    obtain ⟨rfl, rfl, rfl⟩ := hcs
    exact ⟨[], rfl, fun w' _ => ⟨Src.ofNil _ Ybad.underlying23 _, run_convert_bytes_nil w' 23 5 Ybad.underlying23 Ybad.underlying5 0 0 9 Ybad.underlying9⟩⟩
  · simp [Value.cells] at hcs
    obtain ⟨rfl, rfl, rfl⟩ := hcs
    have hlz : len ≤ z.length := by split at hz <;> omega
    have key : ∀ j u, ((z.take len).map (Value.int .u8))[j]? = some u → W.cell? (x.add j) = some u := by
      intro j u hj
      rw [List.getElem?_map] at hj
      obtain ⟨q, hz1, rfl⟩ := Option.map_eq_some_iff.1 hj
      have hjl : j < len := by
        have := (List.getElem?_eq_some_iff.1 hz1).1
        simp at this
        omega
      rw [hcell j (by omega)]
      rw [List.getElem?_take_of_lt hjl] at hz1
      simp [List.getD, hz1]
    have key' : ∀ (w' : World), (∀ b o, b < W.heap.size → w'.cell? ⟨b, o, none⟩ = W.cell? ⟨b, o, none⟩) → ∀ j u, ((z.take len).map (Value.int .u8))[j]? = some u → w'.cell? (x.add j) = some u := by
      intro w' hw' j u hj
      have h1 := key j u hj
      have hb := World.block_lt_of_cell? W _ h1
      have hs := World.cell?_spot h1
      obtain ⟨b, o, sp⟩ := x
      have e : (⟨b, o, sp⟩ : Addr).add j = ⟨b, o + j, none⟩ := by
        cases sp with
        | none => unfold Addr.add; split <;> simp_all
        | some q =>
          unfold Addr.add at hs ⊢
          split at hs
          · simp at hs
          · rename_i hj0; rw [if_neg hj0]
      rw [e] at h1 hb ⊢
      rw [hw' b (o + j) hb]
      exact h1
    exact ⟨z.take len, by simp; omega, fun w' hw' => ⟨Src.ofSlice _ Ybad.underlying23 x len cap _ (by simp; omega) (key' w' hw') (ints_oneCell _ _), conv_addr w' x len cap (z.take len) (by simp; omega) (key' w' hw')⟩⟩

theorem door_met (os : Os) (args : Array Value) : laidMetH Ybad.prog Rows.lawS0234CRoundTripRow.laid ((World.doorLaid Ybad.prog 28 os).forCall (fun _ _ => 0) ⟨#[], args, []⟩).memory :=
  laidMetH_of_parts3 (fuel := 8) (laidMet_of_run' 8 (by kernel_rfl) (by kernel_rfl)) (by kernel_rfl) (by kernel_rfl)

set_option maxRecDepth 100000 in
theorem lifted (os : Os) (started : os.Started) (H : Type) (enc : TypeId × Value → H) :
    ReturnsInHanded {} Ybad.checked os 3 .any (fun w args => (Rows.lawS0234CRoundTripSpec.pre enc Ybad.prog Ybad.f3 [] false w args ∧ laidMetH Ybad.prog Rows.lawS0234CRoundTripRow.laid w) ∧ sizedMet enc Ybad.prog Ybad.f3 (OpenSpec.ofChange Rows.lawS0234CRoundTripSpec) false w args)
      (Rows.lawS0234CRoundTripSpec.post enc Ybad.prog Ybad.f3 false true false false) := by
  refine returnsInHanded_of_change_and (C := Ybad.checked) (X := fun w _ => laidMetH Ybad.prog Rows.lawS0234CRoundTripRow.laid w) (fun _ _ _ hh h => h.of_heap hh) own started (by kernel_rfl) Ybad.func3
    (ChangeSpec.witness_shaped (enc := enc) (C := Ybad.checked) (os := os) (X := fun w _ => laidMetH Ybad.prog Rows.lawS0234CRoundTripRow.laid w) false (World.doorLaid Ybad.prog 28 os) #[.int .u64 0, .string ByteArray.empty, .string ByteArray.empty, .slice none 0 0] 8 rfl (World.shaped_of_RefB (by kernel_rfl) (by kernel_rfl)) (by kernel_rfl) (by kernel_rfl) (by kernel_rfl) (door_met os _)) ?_
  intro W base args ds gs before hval0 hW _ _ hL _
  have hval : ∀ (j : Nat) t v, Ybad.f3.params[j]? = some t → args[j]? = some v → Value.okWide Ybad.prog W .any base t v := hval0
  have hW' := hW
  obtain ⟨p, q, hA0, hV, rfl, hfz, hnd⟩ := hW
  have hA : DataW.TrodAll enc Ybad.prog W 0 (fun _ => true) true Ybad.f3.params.toList args.toList ds p := hA0
  rw [Ybad.params3] at hA hval
  obtain ⟨v0, vs0, d0, ds0, p0, q0, hargs, rfl, rfl, h0, r0⟩ := trodAll_cons hA
  obtain ⟨v1, vs1, d1, ds1, p1, q1, rfl, rfl, rfl, h1, r1⟩ := trodAll_cons r0
  obtain ⟨v2, vs2, d2, ds2, p2, q2, rfl, rfl, rfl, h2, r2⟩ := trodAll_cons r1
  obtain ⟨v3, vs3, d3, ds3, p3, q3, rfl, rfl, rfl, h3, r3⟩ := trodAll_cons r2
  obtain ⟨rfl, rfl, rfl⟩ := trodAll_nil r3
  obtain rfl : args = #[v0, v1, v2, v3] := by cases args; simp_all
  obtain ⟨gg, tt, cs, fuel, d, pp, hgs, hg, ht, hvar, hd, hq⟩ := trodVars_one hV
  subst hgs
  obtain ⟨a0, rfl, rfl, rfl, w0⟩ := open_int Ybad.underlying22 (hval 0 22 v0 rfl rfl) h0
  obtain ⟨a1, rfl, rfl, rfl, w1⟩ := open_string Ybad.underlying9 (hval 1 9 v1 rfl rfl) h1
  obtain ⟨a2, rfl, rfl, rfl, w2⟩ := open_string Ybad.underlying9 (hval 2 9 v2 rfl rfl) h2
  obtain ⟨a3, len, cap, rfl⟩ := okWide_slice Ybad.underlying23 (hval 3 23 v3 rfl rfl)
  have k3 := h3
  have lt3 : ∀ x ∈ p3, x.block < W.heap.size := by obtain ⟨m, hm⟩ := k3; exact DataW.trod_lt m _ _ _ hm
  obtain ⟨zs, hzl, hsrc⟩ := bytes_in h3
  clear hA0 hval0
  have hb := bounds_u64 w0
  obtain ⟨seq, rfl⟩ : ∃ n : Nat, a0 = n := ⟨a0.toNat, by omega⟩
  have hwalk : Calls Ybad.prog 3 #[.int .u64 seq, .string a1, .string a2, .slice a3 len cap] W fun e w' => e = .returned (.bool true) ∧ Below W.heap.size W w' := by
    by_cases h : len ≤ 1024 ∧ a1.size ≤ 1024 ∧ a2.size ≤ 1024
    · exact law a3 len cap zs seq a1 a2 W hzl h.1 h.2.1 h.2.2 (by omega) hsrc
    · exact law_long a3 len cap seq a1 a2 W (by omega)
  refine hwalk.mono fun e W' ⟨he, bel⟩ => ?_
  subst he
  exact ⟨_, rfl, _, _, _, [], _, _, hW', trodAll_mk1 (shut_bool Ybad.underlying4 _), (trodAll_cons_mk (shut_int Ybad.underlying22 w0) (trodAll_cons_mk (shut_string Ybad.underlying9 w1) (trodAll_cons_mk (shut_string Ybad.underlying9 w2) (trodAll_cons_mk (Below.trod laidOut (by kernel_rfl) (of_decide_eq_true (by kernel_rfl)) k3 bel lt3) trodAll_mk0)))), Below.trodVars laidOut bel (by kernel_rfl) hV, bel.frame _, fun h => by cases h⟩

theorem row_proved : Rows.LawS0234CRoundTripSaid :=
  OpenClaim.holds_of_wide 3 Ybad.f3 rfl rfl rfl rfl rfl rfl rfl ⟨rfl, rfl, rfl, rfl, rfl⟩ rfl rfl rfl rfl rfl (by kernel_rfl) Ybad.func3 (by kernel_rfl)
    (of_decide_eq_true (by kernel_rfl)) (by unfold Func.isWrapper; first | (rw [if_pos (by decide +kernel)]; kernel_rfl) | (rw [if_neg (by decide +kernel)]; exact ⟨rfl, rfl⟩))
    (fun os started H enc _ => lifted os started H enc)

theorem card_proved : Rows.LawS0234CRoundTripCardSaid :=
  Claim7.holds_tied_plain_at .later [] [.sentinel] true Rows.lawS0234CRoundTripCard.stood.harness false
    row_proved (fun _ h => by cases h) (by kernel_rfl) (fun _ h => by cases h) lawS0234CRoundTrip_row_tie rfl ⟨rfl, rfl⟩ (by kernel_rfl) rfl
    (fun f fn hf hfn => by
      obtain rfl : f = 3 := Option.some.inj ((show Ybad.prog.funcNamed Rows.lawS0234CRoundTripRow.func = some 3 by kernel_rfl).symm.trans hf) |>.symm
      obtain rfl : fn = Ybad.f3 := (Option.some.inj (Ybad.func3.symm.trans hfn)).symm
      exact ⟨by kernel_rfl, fun j t ht => by
        rw [Ybad.params3] at ht
        have hm : t ∈ [22, 9, 9, 23] := by
          have := Array.mem_of_getElem? ht
          simpa using this
        have hall : ∀ t ∈ [22, 9, 9, 23], Ybad.prog.wantsStandIn t = false := by
          intro t ht
          have := (show ([22, 9, 9, 23].all fun t => !Ybad.prog.wantsStandIn t) = true by kernel_rfl)
          simpa using List.all_eq_true.1 this t ht
        exact hall t hm⟩)
    (by kernel_rfl)
#print axioms card_proved
end Go.Proofs.YbulkdvaDoor
