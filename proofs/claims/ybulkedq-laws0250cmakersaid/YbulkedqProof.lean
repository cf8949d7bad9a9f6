/-
  'Rows.LawS0250CMakerSaid' PROVED.
-/
import Derived.Test.YbulkedqLaw
import Derived.ProofKit
import Derived.OpenShut
import Derived.Carry
import Derived.ChangeMaps5
import Derived.Deep.Slices
import Derived.Deep.SlicePairs
namespace Go.Proofs.Ybulkedq
open Go.ChangeShapes Go.WideShapes Go.ChangeAt Go.RowKit Go.Deep
open Go.ChangeMaps (open_string shut_string)

theorem own : ownKnob Yba.prog.godebug = none := by kernel_rfl
theorem laidOut : laidOutB Yba.prog = true := by kernel_rfl
theorem cells32 : Yba.prog.cellsOf 32 = 2 := by kernel_rfl
theorem cells27 : Yba.prog.cellsOf 27 = 2 := by kernel_rfl
theorem cells3 : Yba.prog.cellsOf 3 = 1 := by kernel_rfl
theorem cells25 : Yba.prog.cellsOf 25 = 1 := by kernel_rfl

theorem plain_add {b off j : Nat} {sp : Option Nat} {w : World} {v : Value} (h : w.cell? ((⟨b, off, sp⟩ : Addr).add j) = some v) : (⟨b, off, sp⟩ : Addr).add j = ⟨b, off + j, none⟩ := by
  have hs := World.cell?_spot h
  cases sp with
  | none => unfold Addr.add; split <;> simp_all
  | some q =>
    unfold Addr.add at hs ⊢
    split at hs
    · simp at hs
    · rename_i hj0; rw [if_neg hj0]

/-- From the cells of each element to the row. -/
theorem pairs_of {W : World} {kd : IntKind} {lo hi : Int} (h0 : lo ≤ 0 ∧ 0 ≤ hi) {a0 : Option Addr} {a : Addr} {len : Nat} (ha : a0 = some a)
    (each : ∀ i, i < len → ∃ q : Int × Int, W.cell? (a.add (i * 2)) = some (.int kd q.1) ∧ W.cell? (a.add (i * 2 + 1)) = some (.int kd q.2) ∧ (lo ≤ q.1 ∧ q.1 ≤ hi) ∧ lo ≤ q.2 ∧ q.2 ≤ hi) :
    ∃ (b off : Nat) (X Y : Nat → Int), Pairs W b off len kd X Y ∧ (∀ i, (lo ≤ X i ∧ X i ≤ hi) ∧ lo ≤ Y i ∧ Y i ≤ hi) ∧ (0 < len → a0 = some ⟨b, off, none⟩ ∧ b < W.heap.size) := by
  by_cases hl0 : len = 0
  · subst hl0
    exact ⟨0, 0, fun _ => 0, fun _ => 0, ⟨fun i h => absurd h (by omega), fun i h => absurd h (by omega)⟩, fun _ => ⟨h0, h0⟩, fun h => absurd h (by omega)⟩
  · obtain ⟨q, hq⟩ := choose_lt each
    obtain ⟨b, off, spt⟩ := a
    have h00 := (hq 0 (by omega)).1
    have hsp : spt = none := by simpa [Addr.add] using World.cell?_spot h00
    subst hsp
    have hb : b < W.heap.size := by
      have := World.block_lt_of_cell? W _ h00
      simpa [Addr.add] using this
    refine ⟨b, off, fun i => if i < len then (q i).1 else 0, fun i => if i < len then (q i).2 else 0, ⟨fun i hi => ?_, fun i hi => ?_⟩, fun i => ?_, fun _ => ⟨ha, hb⟩⟩
    · have := (hq i hi).1
      rw [plain_add this] at this
      simpa [hi] using this
    · have := (hq i hi).2.1
      rw [plain_add this, ← Nat.add_assoc] at this
      simpa [hi] using this
    · by_cases hi : i < len
      · simpa [hi] using (hq i hi).2.2
      · simpa [hi] using h0

theorem pairs_nil {W : World} {kd : IntKind} {lo hi : Int} (h0 : lo ≤ 0 ∧ 0 ≤ hi) {a0 : Option Addr} :
    ∃ (b off : Nat) (X Y : Nat → Int), Pairs W b off 0 kd X Y ∧ (∀ i, (lo ≤ X i ∧ X i ≤ hi) ∧ lo ≤ Y i ∧ Y i ≤ hi) ∧ (0 < 0 → a0 = some ⟨b, off, none⟩ ∧ b < W.heap.size) :=
  ⟨0, 0, fun _ => 0, fun _ => 0, ⟨fun i h => absurd h (by omega), fun i h => absurd h (by omega)⟩, fun _ => ⟨h0, h0⟩, fun h => absurd h (by omega)⟩

/-- The ways that came in. -/
theorem ways_in {W : World} {H : Type} {enc : TypeId × Value → H} {d0 : DataW H} {p0 : List MemPlace} {a0 : Option Addr} {len cap : Nat} {base : Nat} {sp : Nat → Bool} {held : Bool}
    (h0 : DataW.Trod enc Yba.prog W base sp held 22 (.slice a0 len cap) d0 p0) :
    ∃ (b off : Nat) (X Y : Nat → Int), Pairs W b off len .i64 X Y ∧ (∀ i, (-9223372036854775808 ≤ X i ∧ X i ≤ 9223372036854775807) ∧ -9223372036854775808 ≤ Y i ∧ Y i ≤ 9223372036854775807) ∧ (0 < len → a0 = some ⟨b, off, none⟩ ∧ b < W.heap.size) := by
  obtain ⟨fuel, hf⟩ := h0
  rcases open_slice_pairs Yba.underlying22 Yba.underlying32 cells32 rfl rfl cells3 cells3 hf with ⟨hcs, _⟩ | ⟨a, l, c, m, n, V0, V1, D0, D1, P0, P1, hcs, _, hl, hm, hmm, hx, hel⟩
  · simp [Value.cells] at hcs
    obtain ⟨rfl, rfl, rfl⟩ := hcs
    exact pairs_nil (by decide)
  · simp [Value.cells] at hcs
    obtain ⟨rfl, rfl, rfl⟩ := hcs
    have hlm : len ≤ m := by rw [hmm]; split <;> omega
    refine pairs_of (by decide) rfl fun i hi => ?_
    obtain ⟨c0, c1, t0, t1⟩ := hel i (by omega)
    obtain ⟨x0, e0, _, w0⟩ := DataW.trod_int Yba.underlying3 t0
    obtain ⟨x1, e1, _, w1⟩ := DataW.trod_int Yba.underlying3 t1
    simp only [List.cons.injEq, and_true] at e0 e1
    rw [e0] at c0
    rw [e1] at c1
    exact ⟨(x0, x1), c0, c1, bounds_i64 w0, bounds_i64 w1⟩

/-- The ids that came in. -/
theorem ids_in {W : World} {H : Type} {enc : TypeId × Value → H} {d0 : DataW H} {p0 : List MemPlace} {a0 : Option Addr} {len cap : Nat} {base : Nat} {sp : Nat → Bool} {held : Bool}
    (h0 : DataW.Trod enc Yba.prog W base sp held 23 (.slice a0 len cap) d0 p0) :
    ∃ (b off : Nat) (X Y : Nat → Int), Pairs W b off len .u16 X Y ∧ (∀ i, (0 ≤ X i ∧ X i ≤ 65535) ∧ 0 ≤ Y i ∧ Y i ≤ 65535) ∧ (0 < len → a0 = some ⟨b, off, none⟩ ∧ b < W.heap.size) := by
  obtain ⟨fuel, hf⟩ := h0
  rcases open_slice_pairs Yba.underlying23 Yba.underlying27 cells27 rfl rfl cells25 cells25 hf with ⟨hcs, _⟩ | ⟨a, l, c, m, n, V0, V1, D0, D1, P0, P1, hcs, _, hl, hm, hmm, hx, hel⟩
  · simp [Value.cells] at hcs
    obtain ⟨rfl, rfl, rfl⟩ := hcs
    exact pairs_nil (by decide)
  · simp [Value.cells] at hcs
    obtain ⟨rfl, rfl, rfl⟩ := hcs
    have hlm : len ≤ m := by rw [hmm]; split <;> omega
    refine pairs_of (by decide) rfl fun i hi => ?_
    obtain ⟨c0, c1, t0, t1⟩ := hel i (by omega)
    obtain ⟨x0, e0, _, w0⟩ := DataW.trod_int Yba.underlying25 t0
    obtain ⟨x1, e1, _, w1⟩ := DataW.trod_int Yba.underlying25 t1
    simp only [List.cons.injEq, and_true] at e0 e1
    rw [e0] at c0
    rw [e1] at c1
    exact ⟨(x0, x1), c0, c1, bounds_u16 w0, bounds_u16 w1⟩

set_option maxRecDepth 10000 in
/-- Too long an argument: true at once. -/
theorem law_long (pos : ByteArray) (m c1 k c2 : Nat) (full : Bool) (oa ob : Option Addr) (w : World) (h : 1024 < pos.size ∨ 1024 < m ∨ 1024 < k) :
    Calls Yba.prog 3 #[.string pos, .slice oa m c1, .slice ob k c2, .bool full] w fun e w' => e = .returned (.bool true) ∧ Below w.heap.size w w' := by
  by_cases h1 : 1024 < pos.size
  · have g1 : (1024 : Int) < (pos.size : Int) := by omega
    go_enter Yba.func3, Yba.ntmps3
    go_wp2
    go_ret
    exact ⟨rfl, Below.refl _ _⟩
  · have g1 : ¬ (1024 : Int) < (pos.size : Int) := by omega
    by_cases h2 : 1024 < m
    · have g2 : (1024 : Int) < (m : Int) := by omega
      go_enter Yba.func3, Yba.ntmps3
      go_wp2
      go_ret
      exact ⟨rfl, Below.refl _ _⟩
    · have g2 : ¬ (1024 : Int) < (m : Int) := by omega
      have g3 : (1024 : Int) < (k : Int) := by omega
      go_enter Yba.func3, Yba.ntmps3
      go_wp2
      go_ret
      exact ⟨rfl, Below.refl _ _⟩

theorem walk {W : World} {H : Type} {enc : TypeId × Value → H} {d1 d2 : DataW H} {p1 p2 : List MemPlace} {a1 a2 : Option Addr} {m c1 k c2 : Nat} {base base' : Nat} {sp sp' : Nat → Bool} {held held' : Bool} (pos : ByteArray) (full : Bool)
    (h1 : DataW.Trod enc Yba.prog W base sp held 22 (.slice a1 m c1) d1 p1) (h2 : DataW.Trod enc Yba.prog W base' sp' held' 23 (.slice a2 k c2) d2 p2) :
    Calls Yba.prog 3 #[.string pos, .slice a1 m c1, .slice a2 k c2, .bool full] W fun e w' => e = .returned (.bool true) ∧ Below W.heap.size W w' := by
  by_cases hlong : 1024 < pos.size ∨ 1024 < m ∨ 1024 < k
  · exact law_long pos m c1 k c2 full a1 a2 W hlong
  obtain ⟨b1, off1, E, T, hw, hT, ha⟩ := ways_in h1
  obtain ⟨b2, off2, S, D, hi, hS, hb⟩ := ids_in h2
  exact law_walk pos m c1 k c2 full a1 a2 b1 off1 b2 off2 E T S D W (by omega) (by omega) (by omega) hw hi (fun i => (hT i).2) hS ha hb

set_option maxRecDepth 100000 in
theorem lifted (os : Os) (started : os.Started) (H : Type) (enc : TypeId × Value → H) :
    ReturnsInHanded {} Yba.checked os 3 .any (Rows.lawS0250CMakerSpec.pre6 enc Yba.prog Yba.f3 Rows.lawS0250CMakerRow.domain false) (Rows.lawS0250CMakerSpec.post enc Yba.prog Yba.f3 false true false false) := by
  refine returnsInHanded_of_change (C := Yba.checked) own started (by kernel_rfl) Yba.func3
    (ChangeSpec.witness6 (enc := enc) (C := Yba.checked) false ⟨#[], #[.string ⟨#[]⟩, .slice none 0 0, .slice none 0 0, .bool false], []⟩ 8 (by kernel_rfl) (by kernel_rfl) (by kernel_rfl) (by kernel_rfl)) ?_
  intro W base args ds gs before hval0 hW hcnd _
  have hval : ∀ (j : Nat) t v, Yba.f3.params[j]? = some t → args[j]? = some v → Value.okWide Yba.prog W .any base t v := hval0
  have hW' := hW
  obtain ⟨p, q, hA0, hV, rfl, hfz, hnd⟩ := hW
  have hA : DataW.TrodAll enc Yba.prog W 0 (fun _ => true) true Yba.f3.params.toList args.toList ds p := hA0
  rw [Yba.params3] at hA hval
  obtain ⟨v0, vs0, d0, ds0, p0, q0, hargs, rfl, rfl, h0, r0⟩ := trodAll_cons hA
  obtain ⟨v1, vs1, d1, ds1, p1, q1, rfl, rfl, rfl, h1, r1⟩ := trodAll_cons r0
  obtain ⟨v2, vs2, d2, ds2, p2, q2, rfl, rfl, rfl, h2, r2⟩ := trodAll_cons r1
  obtain ⟨v3, vs3, d3, ds3, p3, q3, rfl, rfl, rfl, h3, r3⟩ := trodAll_cons r2
  obtain ⟨rfl, rfl, rfl⟩ := trodAll_nil r3
  obtain rfl : args = #[v0, v1, v2, v3] := by cases args; simp_all
  obtain ⟨rfl, rfl⟩ := trodVars_none hV
  obtain ⟨a0, rfl, rfl, rfl, w0⟩ := open_string Yba.underlying9 (hval 0 9 v0 rfl rfl) h0
  obtain ⟨a1, len1, cap1, rfl⟩ := okWide_slice Yba.underlying22 (hval 1 22 v1 rfl rfl)
  have lt1 : ∀ x ∈ p1, x.block < W.heap.size := by obtain ⟨m, hm⟩ := h1; exact DataW.trod_lt m _ _ _ hm
  obtain ⟨a2, len2, cap2, rfl⟩ := okWide_slice Yba.underlying23 (hval 2 23 v2 rfl rfl)
  have lt2 : ∀ x ∈ p2, x.block < W.heap.size := by obtain ⟨m, hm⟩ := h2; exact DataW.trod_lt m _ _ _ hm
  obtain ⟨a3, rfl, rfl, rfl⟩ := open_bool Yba.underlying4 (hval 3 4 v3 rfl rfl) h3
  clear hA0 hval0
  refine (walk a0 a3 h1 h2).mono fun e W' ⟨he, bel⟩ => ?_
  subst he
  exact ⟨_, rfl, _, _, _, [], _, [], hW', trodAll_mk1 (shut_bool Yba.underlying4 _), (trodAll_cons_mk (shut_string Yba.underlying9 w0) (trodAll_cons_mk (Below.trod laidOut (by kernel_rfl) (of_decide_eq_true (by kernel_rfl)) h1 bel lt1) (trodAll_cons_mk (Below.trod laidOut (by kernel_rfl) (of_decide_eq_true (by kernel_rfl)) h2 bel lt2) (trodAll_cons_mk (shut_bool Yba.underlying4 _) trodAll_mk0)))), rfl, bel.frame _, fun h => by cases h⟩

/-- THE STATEMENT. -/
theorem maker_proved : Rows.LawS0250CMakerSaid :=
  OpenClaim.holds_of_wide 3 Yba.f3 rfl rfl rfl rfl rfl rfl rfl ⟨rfl, rfl, rfl, rfl, rfl⟩ rfl rfl rfl rfl rfl (by kernel_rfl) Yba.func3 (by kernel_rfl)
    (of_decide_eq_true (by kernel_rfl)) (by unfold Func.isWrapper; first | (rw [if_pos (by decide +kernel)]; kernel_rfl) | (rw [if_neg (by decide +kernel)]; exact ⟨rfl, rfl⟩))
    (fun os started H enc _ => lifted os started H enc)
#print axioms maker_proved
end Go.Proofs.Ybulkedq
