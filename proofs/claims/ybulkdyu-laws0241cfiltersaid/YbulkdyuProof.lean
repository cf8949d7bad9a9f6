/-
  'Rows.LawS0241CFilterSaid' PROVED. The row form's own reach pays for 'prefix + Rest'.
-/
import Derived.Test.YbulkdyuLaw
import Derived.ProofKit
import Derived.OpenShut
import Derived.Carry
import Derived.SizedLaws
import Derived.Deep.Slices
import Derived.Deep.SlicePairs
namespace Go.Proofs.Ybulkdyu
open Go.ChangeShapes Go.WideShapes Go.ChangeAt Go.RowKit Go.Deep

theorem own : ownKnob Yba.prog.godebug = none := by kernel_rfl
theorem laidOut : laidOutB Yba.prog = true := by kernel_rfl
theorem cells30 : Yba.prog.cellsOf 30 = 2 := by kernel_rfl
theorem cells5 : Yba.prog.cellsOf 5 = 1 := by kernel_rfl
theorem cells9 : Yba.prog.cellsOf 9 = 1 := by kernel_rfl

theorem plain_add {b off j : Nat} {sp : Option Nat} {w : World} {v : Value} (h : w.cell? ((⟨b, off, sp⟩ : Addr).add j) = some v) : (⟨b, off, sp⟩ : Addr).add j = ⟨b, off + j, none⟩ := by
  have hs := World.cell?_spot h
  cases sp with
  | none => unfold Addr.add; split <;> simp_all
  | some q =>
    unfold Addr.add at hs ⊢
    split at hs
    · simp at hs
    · rename_i hj0; rw [if_neg hj0]

theorem weightsAll_mem {H : Type} {P : Program} {e : TypeId} : ∀ {l : List (DataW H)} {d : DataW H}, d ∈ l → ∀ n ∈ d.weights P e, n ∈ DataW.weightsAll P e l
  | x :: r, d, h, n, hn => by
    simp only [DataW.weightsAll, List.mem_append]
    rcases List.mem_cons.1 h with rfl | h
    · exact .inl hn
    · exact .inr (weightsAll_mem h n hn)
  | [], _, h, _, _ => by cases h

/-- What the walk asks of the variables that came in. -/
theorem vars_in {W : World} {H : Type} {enc : TypeId × Value → H} {d0 : DataW H} {p0 : List MemPlace} {a0 : Option Addr} {len cap : Nat} {base : Nat} {sp : Nat → Bool} {held : Bool}
    (h0 : DataW.Trod enc Yba.prog W base sp held 22 (.slice a0 len cap) d0 p0) (hsz : (DataW.weightsEach Yba.prog [22] [d0]).all (· ≤ reachBytes) = true) :
    (a0 = none ∧ len = 0 ∧ cap = 0) ∨ ∃ (a : Addr) (b off : Nat) (K : Nat → Int) (R : Nat → ByteArray), a0 = some a ∧ VarRow W b off len K R ∧ (∀ i, 0 ≤ K i ∧ K i ≤ 255) ∧ (∀ i, (R i).size ≤ 1000000000000000) ∧ (0 < len → a = ⟨b, off, none⟩ ∧ b < W.heap.size) := by
  obtain ⟨fuel, hf⟩ := h0
  rcases open_slice_pairs Yba.underlying22 Yba.underlying30 cells30 rfl rfl cells5 cells9 hf with ⟨hcs, _⟩ | ⟨a, l, c, m, n, V0, V1, D0, D1, P0, P1, hcs, _, hl, hm, hmm, hx, hel⟩
  · simp [Value.cells] at hcs
    exact .inl hcs
  · simp [Value.cells] at hcs
    obtain ⟨rfl, rfl, rfl⟩ := hcs
    right
    have hlm : len ≤ m := by rw [hmm]; split <;> omega
    simp only [Prod.mk.injEq] at hx
    obtain ⟨hd, _⟩ := hx
    subst hd
    have each : ∀ i, i < len → ∃ q : Int × ByteArray, W.cell? (a.add (i * 2)) = some (.int .u8 q.1) ∧ W.cell? (a.add (i * 2 + 1)) = some (.string q.2) ∧ (0 ≤ q.1 ∧ q.1 ≤ 255) ∧ q.2.size ≤ 1000000000000000 := by
      intro i hi
      obtain ⟨c0, c1, t0, t1⟩ := hel i (by omega)
      obtain ⟨x0, e0, _, w0⟩ := DataW.trod_int Yba.underlying5 t0
      obtain ⟨x1, e1, y1, _⟩ := DataW.trod_string Yba.underlying9 t1
      simp only [List.cons.injEq, and_true] at e0 e1
      rw [e0] at c0
      rw [e1] at c1
      simp only [Prod.mk.injEq] at y1
      have hmem : (DataW.agg [D0 i, D1 i] : DataW H) ∈ (List.range len).map fun i => DataW.agg [D0 i, D1 i] := List.mem_map.2 ⟨i, List.mem_range.2 hi, rfl⟩
      have hw : x1.data.toList.length ∈ DataW.weightsEach Yba.prog [22] [DataW.slice ((List.range len).map fun i => DataW.agg [D0 i, D1 i]) ((List.range (m - len)).map fun j => DataW.agg [D0 (len + j), D1 (len + j)])] := by
        simp only [DataW.weightsEach, DataW.weights, Yba.underlying22, List.append_nil]
        refine List.mem_cons_of_mem _ (List.mem_append_left _ (weightsAll_mem hmem _ ?_))
        simp only [DataW.weights, Yba.underlying30, List.map_cons, List.map_nil, DataW.weightsEach, y1.1]
        simp
      have hle : x1.data.toList.length ≤ reachBytes := by simpa using List.all_eq_true.1 hsz _ hw
      have hr := reachBytes_lt
      have hs : x1.size = x1.data.toList.length := by simp
      refine ⟨(x0, x1), c0, ?_, bounds_u8 w0, ?_⟩
      · exact c1
      · show x1.size ≤ 1000000000000000
        omega
    obtain ⟨q, hq⟩ := choose_lt each
    obtain ⟨b, off, spt⟩ := a
    by_cases hl0 : len = 0
    · subst hl0
      exact ⟨⟨b, off, spt⟩, 0, 0, fun _ => 0, fun _ => ByteArray.empty, rfl, ⟨fun i h => absurd h (by omega), fun i h => absurd h (by omega)⟩, fun _ => by simp, fun _ => by simp, fun h => absurd h (by omega)⟩
    · have h00 := (hq 0 (by omega)).1
      have hsp : spt = none := by simpa [Addr.add] using World.cell?_spot h00
      subst hsp
      have hb : b < W.heap.size := by
        have := World.block_lt_of_cell? W _ h00
        simpa [Addr.add] using this
      refine ⟨⟨b, off, none⟩, b, off, fun i => if i < len then (q i).1 else 0, fun i => if i < len then (q i).2 else ByteArray.empty, rfl, ⟨fun i hi => ?_, fun i hi => ?_⟩, fun i => ?_, fun i => ?_, fun _ => ⟨rfl, hb⟩⟩
      · have := (hq i hi).1
        rw [plain_add this] at this
        simpa [hi] using this
      · have := (hq i hi).2.1
        rw [plain_add this, ← Nat.add_assoc] at this
        simpa [hi] using this
      · by_cases hi : i < len
        · simpa [hi] using (hq i hi).2.2.1
        · simp [hi]
      · by_cases hi : i < len
        · simpa [hi] using (hq i hi).2.2.2
        · simp [hi]

theorem walk {W : World} {H : Type} {enc : TypeId × Value → H} {d0 : DataW H} {p0 : List MemPlace} {a0 : Option Addr} {len cap : Nat} {base : Nat} {sp : Nat → Bool} {held : Bool}
    (h0 : DataW.Trod enc Yba.prog W base sp held 22 (.slice a0 len cap) d0 p0) (hsz : (DataW.weightsEach Yba.prog [22] [d0]).all (· ≤ reachBytes) = true) :
    Calls Yba.prog 3 #[.slice a0 len cap] W fun e w' => e = .returned (.bool true) ∧ Below W.heap.size W w' := by
  by_cases hlong : 1024 < len
  · exact law_long a0 len cap W hlong
  rcases vars_in h0 hsz with ⟨rfl, rfl, rfl⟩ | ⟨a, b, off, K, R, rfl, hv, hK, hR, hb⟩
  · exact law_nil W
  · exact law_some b off len cap K R W (by omega) hv hK hR (fun h => (hb h).2) a (fun h => (hb h).1)

set_option maxRecDepth 100000 in
theorem lifted (os : Os) (started : os.Started) (H : Type) (enc : TypeId × Value → H) :
    ReturnsInHanded {} Yba.checked os 3 .any (Rows.lawS0241CFilterSpec.pre6 enc Yba.prog Yba.f3 Rows.lawS0241CFilterRow.domain false) (Rows.lawS0241CFilterSpec.post enc Yba.prog Yba.f3 false true false false) := by
  refine returnsInHanded_of_change_sized (C := Yba.checked) own started (by kernel_rfl) Yba.func3
    (ChangeSpec.witness6 (enc := enc) (C := Yba.checked) false ⟨#[], #[.slice none 0 0], []⟩ 8 (by kernel_rfl) (by kernel_rfl) (by kernel_rfl) (by kernel_rfl)) ?_
  intro W base args ds gs before hval0 hW hcnd hsz0 _
  have hval : ∀ (j : Nat) t v, Yba.f3.params[j]? = some t → args[j]? = some v → Value.okWide Yba.prog W .any base t v := hval0
  have hsz : (DataW.weightsEach Yba.prog (Yba.f3.params.toList ++ Rows.lawS0241CFilterSpec.plain.varTypes Yba.prog) (ds ++ gs)).all (· ≤ reachBytes) = true := hsz0
  have hW' := hW
  obtain ⟨p, q, hA0, hV, rfl, hfz, hnd⟩ := hW
  have hA : DataW.TrodAll enc Yba.prog W 0 (fun _ => true) true Yba.f3.params.toList args.toList ds p := hA0
  rw [Yba.params3] at hA hval hsz
  obtain ⟨v0, vs0, d0, ds0, p0, q0, hargs, rfl, rfl, h0, r0⟩ := trodAll_cons hA
  obtain ⟨rfl, rfl, rfl⟩ := trodAll_nil r0
  obtain rfl : args = #[v0] := by cases args; simp_all
  obtain ⟨rfl, rfl⟩ := trodVars_none hV
  obtain ⟨a0, len0, cap0, rfl⟩ := okWide_slice Yba.underlying22 (hval 0 22 v0 rfl rfl)
  have lt0 : ∀ x ∈ p0, x.block < W.heap.size := by obtain ⟨m, hm⟩ := h0; exact DataW.trod_lt m _ _ _ hm
  have hsz1 : (DataW.weightsEach Yba.prog [22] [d0]).all (· ≤ reachBytes) = true := hsz
  clear hA0 hval0
  refine (walk h0 hsz1).mono fun e W' ⟨he, bel⟩ => ?_
  subst he
  exact ⟨_, rfl, _, _, _, [], _, [], hW', trodAll_mk1 (shut_bool Yba.underlying4 _), (trodAll_cons_mk (Below.trod laidOut (by kernel_rfl) (of_decide_eq_true (by kernel_rfl)) h0 bel lt0) trodAll_mk0), rfl, bel.frame _, fun h => by cases h⟩

/-- THE STATEMENT. -/
theorem filter_proved : Rows.LawS0241CFilterSaid :=
  OpenClaim.holds_of_wide 3 Yba.f3 rfl rfl rfl rfl rfl rfl rfl ⟨rfl, rfl, rfl, rfl, rfl⟩ rfl rfl rfl rfl rfl (by kernel_rfl) Yba.func3 (by kernel_rfl)
    (of_decide_eq_true (by kernel_rfl)) (by unfold Func.isWrapper; first | (rw [if_pos (by decide +kernel)]; kernel_rfl) | (rw [if_neg (by decide +kernel)]; exact ⟨rfl, rfl⟩))
    (fun os started H enc _ => lifted os started H enc)
#print axioms filter_proved
end Go.Proofs.Ybulkdyu
