/-
  'Rows.LawS0239APicksSaid' PROVED.
-/
import Derived.Test.YbulkdxsPicks
import Derived.ProofKit
import Derived.OpenShut
import Derived.Carry
import Derived.Deep.Slices
import Derived.Deep.Strs
namespace Go.Proofs.Ybulkdxs.Picks
open Go.ChangeShapes Go.WideShapes Go.ChangeAt Go.RowKit Go.Deep

theorem own : ownKnob Yba.prog.godebug = none := by kernel_rfl
theorem laidOut : laidOutB Yba.prog = true := by kernel_rfl
theorem cells30 : Yba.prog.cellsOf 30 = 3 := by kernel_rfl
theorem cells28 : Yba.prog.cellsOf 28 = 1 := by kernel_rfl
theorem cells3 : Yba.prog.cellsOf 3 = 1 := by kernel_rfl
theorem cells9 : Yba.prog.cellsOf 9 = 1 := by kernel_rfl

theorem plain_add {b off j : Nat} {sp : Option Nat} {w : World} {v : Value} (h : w.cell? ((⟨b, off, sp⟩ : Addr).add j) = some v) : (⟨b, off, sp⟩ : Addr).add j = ⟨b, off + j, none⟩ := by
  have hs := World.cell?_spot h
  cases sp with
  | none => unfold Addr.add; split <;> simp_all
  | some q =>
    unfold Addr.add at hs ⊢
    split at hs
    · simp at hs
    · rename_i hj0; rw [if_neg hj0]

/-- The operations that came in. -/
theorem ops_in {W : World} {H : Type} {enc : TypeId × Value → H} {d0 : DataW H} {p0 : List MemPlace} {a0 : Option Addr} {len cap : Nat} {base : Nat} {sp : Nat → Bool} {held : Bool}
    (h0 : DataW.Trod enc Yba.prog W base sp held 22 (.slice a0 len cap) d0 p0) :
    len = 0 ∨ ∃ b off K T S, a0 = some ⟨b, off, none⟩ ∧ OpsAt W b off len K T S ∧ b < W.heap.size := by
  by_cases hl0 : len = 0
  · exact .inl hl0
  right
  obtain ⟨fuel, hf⟩ := h0
  rcases open_slice Yba.underlying22 hf with ⟨hcs, _⟩ | ⟨a, l, c, m, n, D, Pl, hcs, _, hl, hm, hmm, _, hx⟩
  · simp [Value.cells] at hcs
    omega
  · simp [Value.cells] at hcs
    obtain ⟨rfl, rfl, rfl⟩ := hcs
    have hlm : len ≤ m := by rw [hmm]; split <;> omega
    have each : ∀ i, i < len → ∃ q : Int × Int × ByteArray, W.cell? (a.add (i * 3)) = some (.int .u8 q.1) ∧ W.cell? (a.add (i * 3 + 1)) = some (.int .i64 q.2.1) ∧ W.cell? (a.add (i * 3 + 2)) = some (.string q.2.2) := by
      intro i hi
      obtain ⟨cs', h1, h2⟩ := hx i (by omega)
      rw [cells30] at h1
      obtain ⟨_, hlen, hcell⟩ := World.cells?_some h1
      obtain ⟨y0, y1, y2, k, _, _, g0, g1, g2⟩ := trod_struct3 Yba.underlying30 h2
      match cs', hlen with
      | [v0, v1, v2], _ =>
        simp [cells28, cells3, cells9] at g0 g1 g2
        obtain ⟨x0, e0, _, _⟩ := DataW.trod_int Yba.underlying28 g0
        obtain ⟨x1, e1, _, _⟩ := DataW.trod_int Yba.underlying3 g1
        obtain ⟨x2, e2, _, _⟩ := DataW.trod_string Yba.underlying9 g2
        simp at e0 e1 e2
        subst e0 e1 e2
        have c0 := hcell 0 (by omega)
        have c1 := hcell 1 (by omega)
        have c2 := hcell 2 (by omega)
        rw [add_add] at c0 c1 c2
        exact ⟨(x0, x1, x2), by simpa using c0, by simpa using c1, by simpa using c2⟩
    obtain ⟨q, hq⟩ := choose_lt each
    obtain ⟨b, off, spt⟩ := a
    have h00 := (hq 0 (by omega)).1
    have hsp : spt = none := by simpa [Addr.add] using World.cell?_spot h00
    subst hsp
    refine ⟨b, off, fun i => (q i).1, fun i => (q i).2.1, fun i => (q i).2.2, rfl, ⟨fun i hi => ?_, fun i hi => ?_, fun i hi => ?_⟩, ?_⟩
    · have := (hq i hi).1; rwa [plain_add this] at this
    · have := (hq i hi).2.1; rwa [plain_add this, ← Nat.add_assoc] at this
    · have := (hq i hi).2.2; rwa [plain_add this, ← Nat.add_assoc] at this
    · have := World.block_lt_of_cell? W _ h00
      simpa [Addr.add] using this

/-- The raw indices that came in. -/
theorem raw_in {W : World} {H : Type} {enc : TypeId × Value → H} {d0 : DataW H} {p0 : List MemPlace} {a0 : Option Addr} {len cap : Nat} {base : Nat} {sp : Nat → Bool} {held : Bool}
    (h0 : DataW.Trod enc Yba.prog W base sp held 23 (.slice a0 len cap) d0 p0) :
    len = 0 ∨ ∃ (b off : Nat) (R : Nat → Int), a0 = some ⟨b, off, none⟩ ∧ (∀ j, j < len → W.cell? ⟨b, off + j, none⟩ = some (.int .u32 (R j))) ∧ (∀ j, 0 ≤ R j ∧ R j ≤ (4294967295 : Int)) ∧ b < W.heap.size := by
  by_cases hl0 : len = 0
  · exact .inl hl0
  right
  obtain ⟨fuel, hf⟩ := h0
  rcases open_ints Yba.underlying23 Yba.underlying27 (by kernel_rfl) hf with ⟨hcs, _⟩ | ⟨x, l, c, zs, hcs, _, hl, hm, hz, _, hcell, hwz⟩
  · simp [Value.cells] at hcs
    omega
  · simp [Value.cells] at hcs
    obtain ⟨rfl, rfl, rfl⟩ := hcs
    have hlz : len ≤ zs.length := by split at hz <;> omega
    obtain ⟨b, off, spt⟩ := x
    have h00 := hcell 0 (by omega)
    have hsp : spt = none := by simpa [Addr.add] using World.cell?_spot h00
    subst hsp
    refine ⟨b, off, fun j => zs.getD j 0, rfl, fun j hj => ?_, fun j => ?_, ?_⟩
    · have := hcell j (by omega)
      rwa [plain_add this] at this
    · show 0 ≤ zs.getD j 0 ∧ zs.getD j 0 ≤ 4294967295
      by_cases hj : j < zs.length
      · have hmem : zs.getD j 0 ∈ zs := by
          rw [List.getD_eq_getElem?_getD, List.getElem?_eq_getElem hj]
          exact List.getElem_mem hj
        exact bounds_u32 (hwz _ hmem)
      · rw [List.getD_eq_getElem?_getD, List.getElem?_eq_none (by omega)]
        simp
    · have := World.block_lt_of_cell? W _ h00
      simpa [Addr.add] using this

theorem walk {W : World} {H : Type} {enc : TypeId × Value → H} {d0 d1 : DataW H} {p0 p1 : List MemPlace} {a0 a1 : Option Addr} {n c m cr : Nat} {base base' : Nat} {sp sp' : Nat → Bool} {held held' : Bool}
    (h0 : DataW.Trod enc Yba.prog W base sp held 22 (.slice a0 n c) d0 p0) (h1 : DataW.Trod enc Yba.prog W base' sp' held' 23 (.slice a1 m cr) d1 p1) :
    Calls Yba.prog 3 #[.slice a0 n c, .slice a1 m cr] W fun e w' => e = .returned (.bool true) ∧ Below W.heap.size W w' := by
  by_cases hlong : 1024 < n ∨ 1024 < m
  · exact picks_long a0 a1 n c m cr W hlong
  rcases ops_in h0 with rfl | ⟨b, off, K, T, S, rfl, ho, hbw⟩
  · exact picks_none a0 a1 c m cr W (by omega)
  by_cases hn0 : n = 0
  · subst hn0
    exact picks_none _ a1 c m cr W (by omega)
  rcases raw_in h1 with rfl | ⟨br, offr, R, rfl, hr, hR, hrw⟩
  · exact picks_zero _ a1 n c cr W (by omega) (by omega)
  by_cases hm0 : m = 0
  · subst hm0
    exact picks_zero _ _ n c cr W (by omega) (by omega)
  have hnn : (n : Int) ≠ 0 := by omega
  have b1 : ∀ j, 0 ≤ R j % (n : Int) := fun j => Int.emod_nonneg _ hnn
  have b2 : ∀ j, R j % (n : Int) < n := fun j => Int.emod_lt_of_pos _ (by omega)
  exact picks_some b off n c K T S br offr m cr R (fun j => (R j % (n : Int)).toNat) W (by omega) (by omega) (by omega) (by omega) ho hr hR (fun j => by have := b1 j; show R j % (n : Int) = ((R j % (n : Int)).toNat : Int); omega) (fun j => by have := b1 j; have := b2 j; show (R j % (n : Int)).toNat < n; omega) hbw hrw

set_option maxRecDepth 100000 in
theorem lifted (os : Os) (started : os.Started) (H : Type) (enc : TypeId × Value → H) :
    ReturnsInHanded {} Yba.checked os 3 .any (Rows.lawS0239APicksSpec.pre6 enc Yba.prog Yba.f3 Rows.lawS0239APicksRow.domain false) (Rows.lawS0239APicksSpec.post enc Yba.prog Yba.f3 false true false false) := by
  refine returnsInHanded_of_change (C := Yba.checked) own started (by kernel_rfl) Yba.func3
    (ChangeSpec.witness6 (enc := enc) (C := Yba.checked) false ⟨#[], #[.slice none 0 0, .slice none 0 0], []⟩ 8 (by kernel_rfl) (by kernel_rfl) (by kernel_rfl) (by kernel_rfl)) ?_
  intro W base args ds gs before hval0 hW hcnd _
  have hval : ∀ (j : Nat) t v, Yba.f3.params[j]? = some t → args[j]? = some v → Value.okWide Yba.prog W .any base t v := hval0
  have hW' := hW
  obtain ⟨p, q, hA0, hV, rfl, hfz, hnd⟩ := hW
  have hA : DataW.TrodAll enc Yba.prog W 0 (fun _ => true) true Yba.f3.params.toList args.toList ds p := hA0
  rw [Yba.params3] at hA hval
  obtain ⟨v0, vs0, d0, ds0, p0, q0, hargs, rfl, rfl, h0, r0⟩ := trodAll_cons hA
  obtain ⟨v1, vs1, d1, ds1, p1, q1, rfl, rfl, rfl, h1, r1⟩ := trodAll_cons r0
  obtain ⟨rfl, rfl, rfl⟩ := trodAll_nil r1
  obtain rfl : args = #[v0, v1] := by cases args; simp_all
  obtain ⟨rfl, rfl⟩ := trodVars_none hV
  obtain ⟨a0, len0, cap0, rfl⟩ := okWide_slice Yba.underlying22 (hval 0 22 v0 rfl rfl)
  have lt0 : ∀ x ∈ p0, x.block < W.heap.size := by obtain ⟨m, hm⟩ := h0; exact DataW.trod_lt m _ _ _ hm
  obtain ⟨a1, len1, cap1, rfl⟩ := okWide_slice Yba.underlying23 (hval 1 23 v1 rfl rfl)
  have lt1 : ∀ x ∈ p1, x.block < W.heap.size := by obtain ⟨m, hm⟩ := h1; exact DataW.trod_lt m _ _ _ hm
  clear hA0 hval0
  refine (walk h0 h1).mono fun e W' ⟨he, bel⟩ => ?_
  subst he
  exact ⟨_, rfl, _, _, _, [], _, [], hW', trodAll_mk1 (shut_bool Yba.underlying4 _), (trodAll_cons_mk (Below.trod laidOut (by kernel_rfl) (of_decide_eq_true (by kernel_rfl)) h0 bel lt0) (trodAll_cons_mk (Below.trod laidOut (by kernel_rfl) (of_decide_eq_true (by kernel_rfl)) h1 bel lt1) trodAll_mk0)), rfl, bel.frame _, fun h => by cases h⟩

theorem over : Rows.lawS0239APicksRow.holds Yba.pinned (OpenSpec.ofChange Rows.lawS0239APicksSpec) :=
  OpenClaim.holds_of_wide 3 Yba.f3 rfl rfl rfl rfl rfl rfl rfl ⟨rfl, rfl, rfl, rfl, rfl⟩ rfl rfl rfl rfl rfl (by kernel_rfl) Yba.func3 (by kernel_rfl)
    (of_decide_eq_true (by kernel_rfl)) (by unfold Func.isWrapper; first | (rw [if_pos (by decide +kernel)]; kernel_rfl) | (rw [if_neg (by decide +kernel)]; exact ⟨rfl, rfl⟩))
    (fun os started H enc _ => lifted os started H enc)
end Go.Proofs.Ybulkdxs.Picks
namespace Go.Proofs.Ybulkdxs
/-- THE STATEMENT. -/
theorem picks_proved : Rows.LawS0239APicksSaid := Picks.over
#print axioms picks_proved
end Go.Proofs.Ybulkdxs
