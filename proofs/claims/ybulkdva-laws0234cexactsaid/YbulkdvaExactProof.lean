/-
  THE SHELL OF A PROOF OF 'Rows.LawS0234CExactSaid' ('example.com/antecedent/antecedent/stampedrpc.LawS0234CExact'), WRITTEN BY PROGRAM (proof-skeleton.mjs, third state) off the guide's own print for that function. Not trusted: Lean checks it.
  THE HOLE (the walk) IS FILLED; the frame is the shell's own.
-/
import Derived.Test.YbulkdvaRows
import Derived.Test.YbulkdvaHdr
import Derived.WalkKit
import Derived.ProofKit
import Derived.OpenShut
import Derived.ShutString
import Derived.ChangeOld
import Derived.Below
namespace Go.Proofs.Ybulkdva.lawS0234CExact
open Go.ChangeShapes Go.WideShapes Go.ChangeAt Go.RowKit
open Go.ChangeMaps (open_string shut_string)
set_option linter.unusedVariables false

theorem own : ownKnob Yba.prog.godebug = none := by kernel_rfl
theorem laidOut : laidOutB Yba.prog = true := by kernel_rfl

/-- WHAT THE WALK IS TOLD OF A SLICE OF INTEGERS THAT CAME IN: it is nil; or it leads to a row of 'cap' cells, the numbers 'zs' (the first 'len' are its elements, the rest its spare room), each fitting its kind. -/
def IsRow (k : IntKind) (w : World) (a : Option Addr) (len cap : Nat) (zs : List Int) : Prop :=
  (a = none ∧ len = 0 ∧ cap = 0 ∧ zs = []) ∨
  ∃ x, a = some x ∧ len ≤ cap ∧ cap ≤ maxLen ∧ zs.length = cap ∧ (∀ i, i < zs.length → w.cell? (x.add i) = some (.int k (zs.getD i 0))) ∧ ∀ n ∈ zs, (Lit.int k n).wf = true

/-! ### STEP 1: THE WALK -/
theorem row_src {w : World} {a : Option Addr} {len cap : Nat} {z : List Int} (h : IsRow .u8 w a len cap z) : ∃ zs : List Int, zs.length = len ∧ Src Yba.prog 1 22 (.slice a len cap) len (zs.map (Value.int .u8)) w ∧
    ∀ (w' : World), (∀ b o, b < w.heap.size → w'.cell? ⟨b, o, none⟩ = w.cell? ⟨b, o, none⟩) → Src Yba.prog 1 22 (.slice a len cap) len (zs.map (Value.int .u8)) w' := by
  rcases h with ⟨rfl, rfl, rfl, rfl⟩ | ⟨x, rfl, hl, hm, hz, hcell, hwz⟩
  · exact ⟨[], rfl, Src.ofNil _ Yba.underlying22 _, fun w' _ => Src.ofNil _ Yba.underlying22 _⟩
  · have key : ∀ j u, ((z.take len).map (Value.int .u8))[j]? = some u → w.cell? (x.add j) = some u := by
      intro j u hj
      rw [List.getElem?_map] at hj
      obtain ⟨q, hz1, rfl⟩ := Option.map_eq_some_iff.1 hj
      have hjl : j < len := by
        have := (List.getElem?_eq_some_iff.1 hz1).1
        simp at this
        omega
      rw [hcell j (by omega)]
      rw [List.getElem?_take_of_lt hjl] at hz1
      simp [List.getD, hz1]
    refine ⟨z.take len, by simp; omega, Src.ofSlice _ Yba.underlying22 x len cap _ (by simp; omega) key (ints_oneCell _ _), fun w' hw' => Src.ofSlice _ Yba.underlying22 x len cap _ (by simp; omega) (fun j u hj => ?_) (ints_oneCell _ _)⟩
    have h1 := key j u hj
    have hb := World.block_lt_of_cell? w _ h1
    have hs := World.cell?_spot h1
    obtain ⟨b, o, sp⟩ := x
    have e : (⟨b, o, sp⟩ : Addr).add j = ⟨b, o + j, none⟩ := by
      cases sp with
      | none => unfold Addr.add; split <;> simp_all
      | some q =>
        unfold Addr.add at hs ⊢
        split at hs
        · simp at hs
        · rename_i hj0; rw [if_neg hj0]
    rw [e] at h1 hb ⊢
    rw [hw' b (o + j) hb]
    exact h1

set_option maxHeartbeats 800000 in
theorem law (a0 : Option Addr) (len cap : Nat) (zs : List Int) (seq : Nat) (m er : ByteArray) (w : World) (hzl : zs.length = len) (hlen : len ≤ 1024) (hm : m.size ≤ 1024) (he : er.size ≤ 1024) (hseq : seq < 18446744073709551616)
    (hsrc : Src Yba.prog 1 22 (.slice a0 len cap) len (zs.map (Value.int .u8)) w)
    (hsrc2 : ∀ (w' : World), (∀ b o, b < w.heap.size → w'.cell? ⟨b, o, none⟩ = w.cell? ⟨b, o, none⟩) → Src Yba.prog 1 22 (.slice a0 len cap) len (zs.map (Value.int .u8)) w') :
    Calls Yba.prog 3 #[.slice a0 len cap, .int .u64 seq, .string m, .string er] w fun e w' => e = .returned (.bool true) ∧ Below w.heap.size w w' := by
  obtain ⟨i0, hi, hz0, hz1, hz2⟩ := info_parts info5
  have u1 := uv_len seq
  have u2 := uv_len m.size
  have u3 := uv_len er.size
  go_enter Yba.func3, Yba.ntmps3
  go_wp2_with (first | (at_builtin; refine wpList_append_own_src _ rfl (.const (.slice none 0 0)) (.tmp 26) 22 22 rfl w.heap.size 5 i0 (.int .u8 0) 1 1 Yba.underlying22 hi hz0 hz1 hz2 rfl _ 0 [] rfl (World.ownsRow_nil _ _ _ _) _ len _ rfl hsrc ?c1 ?c2 (Nat.le_refl _) ?_))
  case c1 => unfold maxLen; omega
  case c2 => omega
  intro v1 w1 o1' g1 _
  have o1 : Bytes w1 w.heap.size v1 zs := bytes_of o1' (by omega) (by simp)
  have hB1 : Below w.heap.size w w1 := (Below.refl _ _).grown g1.grown (Nat.le_refl _) (by intro k h; cases h)
  have s1 := hB1.size
  have lt1 : v1.ownBlock ≠ some w1.heap.size := fun h => by have := (o1.lt _ h).2; omega
  clear o1' hsrc
  go_wp2_with fail
  refine (app_any w.heap.size w1.heap.size v1 zs seq m er _ hseq hm he (o1.alloc _) (by omega) (by simp; omega) lt1 (by simp) (by simp) (by simp)).mono ?_
  rintro e w2 ⟨v2, rfl, o2, g2⟩
  have hB2 : Below w.heap.size w w2 := (hB1.alloc s1 _).grown g2.grown (by simp; omega) (fun k h => (o1.lt k h).1)
  have s2 := hB2.size
  have hs2 := hsrc2 w2 (fun b o hb => hB2.cell (p := ⟨b, o, none⟩) hb)
  clear o1 g1 g2 hsrc2
  go_wp2_with (first | (at_builtin; refine wpList_append_own_src _ rfl (.const (.slice none 0 0)) (.tmp 36) 22 22 rfl w2.heap.size 5 i0 (.int .u8 0) 1 1 Yba.underlying22 hi hz0 hz1 hz2 rfl _ 0 [] rfl (World.ownsRow_nil _ _ _ _) _ len _ rfl hs2 ?d1 ?d2 (Nat.le_refl _) ?_))
  case d1 => unfold maxLen; omega
  case d2 => omega
  intro v3 w3 o3' g3 _
  have o3 : Bytes w3 w2.heap.size v3 zs := bytes_of o3' (by omega) (by simp)
  have b3 := g3.grown.size
  clear o3' hs2
  go_wp2_with fail
  refine (uv_any5 w2.heap.size v3 zs seq _ hseq o3 (by omega) b3).mono ?_
  rintro e w4 ⟨v4, rfl, o4, g4⟩
  have G4 := g3.trans g4
  have b4 := G4.grown.size
  clear o3 g4 g3
  go_wp2_with fail
  refine (uv_any5 w2.heap.size v4 _ m.size _ (by omega) o4 (by simp only [List.length_append]; omega) b4).mono ?_
  rintro e w5 ⟨v5, rfl, o5, g5⟩
  have G5 := G4.trans g5
  have b5 := G5.grown.size
  clear o4 g5 G4
  go_wp2_with (first | (at_builtin; refine wpList_append_own_src _ rfl (.tmp 46) (.tmp 47) 22 9 rfl w2.heap.size 5 i0 (.int .u8 0) 1 1 Yba.underlying22 hi hz0 hz1 hz2 rfl v5 _ _ rfl o5 (.string m) m.size (byteCells m) rfl (Src.ofString _ Yba.underlying9 m) ?e1 ?e2 ?e3 ?_))
  case e1 => unfold maxLen; simp only [List.length_append]; omega
  case e2 => simp only [List.length_append]; omega
  case e3 => omega
  intro v6 w6 o6' g6 _
  have o6 : Bytes w6 w2.heap.size v6 (zs ++ uv seq ++ uv m.size ++ nums m) := bytes_of o6' (by simp [nums_len]; omega) (by simp [byteCells_nums])
  have G6 := G5.trans g6
  have b6 := G6.grown.size
  clear o5 o6' g6 G5
  go_wp2_with fail
  refine (uv_any5 w2.heap.size v6 _ er.size _ (by omega) o6 (by simp only [List.length_append, nums_len]; omega) b6).mono ?_
  rintro e w7 ⟨v7, rfl, o7, g7⟩
  have G7 := G6.trans g7
  have b7 := G7.grown.size
  clear o6 g7 G6
  go_wp2_with (first | (at_builtin; refine wpList_append_own_src _ rfl (.tmp 54) (.tmp 55) 22 9 rfl w2.heap.size 5 i0 (.int .u8 0) 1 1 Yba.underlying22 hi hz0 hz1 hz2 rfl v7 _ _ rfl o7 (.string er) er.size (byteCells er) rfl (Src.ofString _ Yba.underlying9 er) ?f1 ?f2 ?f3 ?_))
  case f1 => unfold maxLen; simp only [List.length_append, nums_len]; omega
  case f2 => simp only [List.length_append, nums_len]; omega
  case f3 => omega
  intro v8 w8 o8' g8 _
  have o8 : Bytes w8 w2.heap.size v8 (zs ++ hdr seq m er) := bytes_of o8' (by simp [hdr, nums_len]; omega) (by simp [byteCells_nums, hdr])
  have G8 := G7.trans g8
  have o2' : Bytes w8 w.heap.size v2 (zs ++ hdr seq m er) := o2.kept G8.grown (Classical.em _)
  have hB8 : Below w.heap.size w w8 := hB2.grown G8.grown s2 (by intro k h; cases h)
  clear o7 o8' g8 G7 o2 G8
  go_wp2_with (go_at_call 6; refine (equal_own w.heap.size w2.heap.size v2 v8 _ _ o2' o8).mono ?_; rintro e w9 ⟨rfl, rfl⟩)
  go_ret
  exact ⟨rfl, hB8⟩

theorem law_long (a0 : Option Addr) (len cap : Nat) (seq : Nat) (m er : ByteArray) (w : World) (h : 1024 < len ∨ 1024 < m.size ∨ 1024 < er.size) :
    Calls Yba.prog 3 #[.slice a0 len cap, .int .u64 seq, .string m, .string er] w fun e w' => e = .returned (.bool true) ∧ Below w.heap.size w w' := by
  by_cases h1 : 1024 < len
  · have h1' : (1024 : Int) < (len : Int) := by omega
    go_enter Yba.func3, Yba.ntmps3
    go_wp2
    go_ret
    exact ⟨rfl, Below.refl _ _⟩
  · have h1' : ¬ (1024 : Int) < (len : Int) := by omega
    by_cases h2 : 1024 < m.size
    · have h2' : (1024 : Int) < (m.size : Int) := by omega
      go_enter Yba.func3, Yba.ntmps3
      go_wp2
      go_ret
      exact ⟨rfl, Below.refl _ _⟩
    · have h2' : ¬ (1024 : Int) < (m.size : Int) := by omega
      have h3' : (1024 : Int) < (er.size : Int) := by omega
      go_enter Yba.func3, Yba.ntmps3
      go_wp2
      go_ret
      exact ⟨rfl, Below.refl _ _⟩

theorem walk (a0 : Option Addr) (len0 cap0 : Nat) (z0 : List Int) (a1 : Int) (a2 : ByteArray) (a3 : ByteArray) (w : World) (w0 : IsRow .u8 w a0 len0 cap0 z0) (w1 : (Lit.int .u64 a1).wf = true) (w2 : a2.size ≤ maxLen) (w3 : a3.size ≤ maxLen) :
    Calls Yba.prog 3 #[.slice a0 len0 cap0, .int .u64 a1, .string a2, .string a3] w fun e w' => e = .returned (.bool true) ∧ Below w.heap.size w w' := by
  have hb := bounds_u64 w1
  obtain ⟨seq, rfl⟩ : ∃ n : Nat, a1 = n := ⟨a1.toNat, by omega⟩
  obtain ⟨zs, hzl, hs1, hs2⟩ := row_src w0
  by_cases h : len0 ≤ 1024 ∧ a2.size ≤ 1024 ∧ a3.size ≤ 1024
  · exact law a0 len0 cap0 zs seq a2 a3 w hzl h.1 h.2.1 h.2.2 (by omega) hs1 hs2
  · exact law_long a0 len0 cap0 seq a2 a3 w (by omega)

/-! ### THE ROW's STEP: WRITTEN OUT: LEAVE IT -/
set_option maxRecDepth 100000 in
theorem lifted (os : Os) (started : os.Started) (H : Type) (enc : TypeId × Value → H) :
    ReturnsInHanded {} Yba.checked os 3 .any (Rows.lawS0234CExactSpec.pre6 enc Yba.prog Yba.f3 Rows.lawS0234CExactRow.domain false) (Rows.lawS0234CExactSpec.post enc Yba.prog Yba.f3 false true false false) := by
  refine returnsInHanded_of_change (C := Yba.checked) own started (by kernel_rfl) Yba.func3
    (ChangeSpec.witness6 (enc := enc) (C := Yba.checked) false ⟨#[], #[.slice none 0 0, .int .u64 0, .string ByteArray.empty, .string ByteArray.empty], []⟩ 8 (by kernel_rfl) (by kernel_rfl) (by kernel_rfl) (by kernel_rfl)) ?_
  intro W base args ds gs before hval0 hW hcnd _
  have hval : ∀ (j : Nat) t v, Yba.f3.params[j]? = some t → args[j]? = some v → Value.okWide Yba.prog W .any base t v := hval0
  have hW' := hW
  obtain ⟨p, q, hA0, hV, rfl, hfz, hnd⟩ := hW
  have hA : DataW.TrodAll enc Yba.prog W 0 (fun _ => true) true Yba.f3.params.toList args.toList ds p := hA0
  rw [Yba.params3] at hA hval
  obtain ⟨v0, vs0, d0, ds0, p0, q0, hargs, rfl, rfl, h0, r0⟩ := trodAll_cons hA
  obtain ⟨v1, vs1, d1, ds1, p1, q1, rfl, rfl, rfl, h1, r1⟩ := trodAll_cons r0
  obtain ⟨v2, vs2, d2, ds2, p2, q2, rfl, rfl, rfl, h2, r2⟩ := trodAll_cons r1
  obtain ⟨v3, vs3, d3, ds3, p3, q3, rfl, rfl, rfl, h3, r3⟩ := trodAll_cons r2
  obtain ⟨rfl, rfl, rfl⟩ := trodAll_nil r3
  obtain rfl : args = #[v0, v1, v2, v3] := by cases args; simp_all
  obtain ⟨rfl, rfl⟩ := trodVars_none hV
  obtain ⟨a0, len0, cap0, rfl⟩ := okWide_slice Yba.underlying22 (hval 0 22 v0 rfl rfl)
  have k0 := h0
  have lt0 : ∀ x ∈ p0, x.block < W.heap.size := by obtain ⟨m, hm⟩ := k0; exact DataW.trod_lt m _ _ _ hm
  obtain ⟨z0, w0⟩ : ∃ zs, IsRow .u8 W a0 len0 cap0 zs := by
    obtain ⟨fuel, hf⟩ := h0
    rcases open_ints Yba.underlying22 Yba.underlying5 (by kernel_rfl) hf with ⟨hcs, _⟩ | ⟨x, l, c, zs, hcs, _, hl, hm, hz, _, hcell, hwz⟩
    · simp [Value.cells] at hcs
      obtain ⟨rfl, rfl, rfl⟩ := hcs
      exact ⟨[], .inl ⟨rfl, rfl, rfl, rfl⟩⟩
    · simp [Value.cells] at hcs
      obtain ⟨rfl, rfl, rfl⟩ := hcs
      exact ⟨zs, .inr ⟨_, rfl, hl, hm, by simpa using hz, hcell, hwz⟩⟩
  obtain ⟨a1, rfl, rfl, rfl, w1⟩ := open_int Yba.underlying23 (hval 1 23 v1 rfl rfl) h1
  obtain ⟨a2, rfl, rfl, rfl, w2⟩ := open_string Yba.underlying9 (hval 2 9 v2 rfl rfl) h2
  obtain ⟨a3, rfl, rfl, rfl, w3⟩ := open_string Yba.underlying9 (hval 3 9 v3 rfl rfl) h3
  clear hA0 hval0
  refine (walk a0 len0 cap0 z0 a1 a2 a3 W w0 w1 w2 w3).mono fun e W' ⟨he, bel⟩ => ?_
  subst he
  exact ⟨_, rfl, _, _, _, [], _, [], hW', trodAll_mk1 (shut_bool Yba.underlying4 _), (trodAll_cons_mk (Below.trod laidOut (by kernel_rfl) (of_decide_eq_true (by kernel_rfl)) k0 bel lt0) (trodAll_cons_mk (shut_int Yba.underlying23 w1) (trodAll_cons_mk (shut_string Yba.underlying9 w2) (trodAll_cons_mk (shut_string Yba.underlying9 w3) trodAll_mk0)))), rfl, bel.frame _, fun h => by cases h⟩

theorem over : Rows.lawS0234CExactRow.holds Yba.pinned (OpenSpec.ofChange Rows.lawS0234CExactSpec) :=
  OpenClaim.holds_of_wide 3 Yba.f3 rfl rfl rfl rfl rfl rfl rfl ⟨rfl, rfl, rfl, rfl, rfl⟩ rfl rfl rfl rfl rfl (by kernel_rfl) Yba.func3 (by kernel_rfl)
    (of_decide_eq_true (by kernel_rfl)) (by unfold Func.isWrapper; first | (rw [if_pos (by decide +kernel)]; kernel_rfl) | (rw [if_neg (by decide +kernel)]; exact ⟨rfl, rfl⟩))
    (fun os started H enc _ => lifted os started H enc)

/-- ████ THE STATEMENT ████ -/
theorem proved : Rows.LawS0234CExactSaid := over
end Go.Proofs.Ybulkdva.lawS0234CExact
namespace Go.Proofs.Ybulkdva
theorem exact_proved : Rows.LawS0234CExactSaid := lawS0234CExact.proved
#print axioms exact_proved
end Go.Proofs.Ybulkdva
