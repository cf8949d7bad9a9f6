/-
  THE WALK OF 'LawS0234CRoundTrip'.
-/
import Derived.Test.YbulkdvaDoorRead
namespace Go.Proofs.YbulkdvaDoor
open Go.RowKit

theorem conv_addr (w : World) (x : Addr) (len cap : Nat) (xs : List Int) (hlen : xs.length = len) (hcell : ∀ j u, (xs.map (Value.int .u8))[j]? = some u → w.cell? (x.add j) = some u) :
    (convert 23 9 (.slice (some x) len cap)).run Ybad.prog w = .ok (.string (strOfNums xs)) w := by
  have hl : (loadCells x len).run Ybad.prog w = .ok (xs.map (Value.int .u8)).toArray w := by
    have := run_loadCells_list (P := Ybad.prog) w x (xs.map (Value.int .u8)) hcell
    simpa [hlen] using this
  rw [run_convert_bytes_string w 23 9 5 _ len cap Ybad.underlying23 Ybad.underlying5 Ybad.underlying9, run_bytesToString w _ len cap xs hl, foldl_push_bytes]
  simp [strOfNums, ByteArray.empty, ByteArray.emptyWithCapacity]
  rfl

theorem equal_conv (v1 v2 : Value) (s : ByteArray) (w : World) (e1 : (convert 23 9 v1).run Ybad.prog w = .ok (.string s) w) (e2 : (convert 23 9 v2).run Ybad.prog w = .ok (.string s) w) :
    Calls Ybad.prog 6 #[v1, v2] w fun e w' => e = .returned (.bool true) ∧ w' = w := by
  go_enter Ybad.func6, Ybad.ntmps6
  go_wp2
  go_ret
  exact ⟨by simp, rfl⟩

set_option maxHeartbeats 800000 in
theorem law (a0 : Option Addr) (len cap : Nat) (body : List Int) (seq : Nat) (m er : ByteArray) (w : World) (hbl : body.length = len) (hlen : len ≤ 1024) (hm : m.size ≤ 1024) (he : er.size ≤ 1024) (hseq : seq < 18446744073709551616)
    (hsrc : ∀ (w' : World), (∀ b o, b < w.heap.size → w'.cell? ⟨b, o, none⟩ = w.cell? ⟨b, o, none⟩) → Src Ybad.prog 1 23 (.slice a0 len cap) len (body.map (Value.int .u8)) w' ∧ (convert 23 9 (.slice a0 len cap)).run Ybad.prog w' = .ok (.string (strOfNums body)) w') :
    Calls Ybad.prog 3 #[.int .u64 seq, .string m, .string er, .slice a0 len cap] w fun e w' => e = .returned (.bool true) ∧ Below w.heap.size w w' := by
  obtain ⟨i0, hi, hz0, hz1, hz2⟩ := info_parts info5
  have hh := hdr_len seq m er
  have HH : Hid (0 < (hdr seq m er).length) := by
    have := uv_pos seq
    unfold hdr
    show 0 < (uv seq ++ _).length
    rw [List.length_append]
    omega
  go_enter Ybad.func3, Ybad.ntmps3
  go_wp2_with fail
  refine (app_any (w.heap.size + 1) w.heap.size (.slice none 0 0) [] seq m er _ hseq hm he (World.ownsRow_nil _ _ _ _) (by simp) (by simp) (by simp [Value.ownBlock]) (by simp) (by simp) (by simp)).mono ?_
  rintro e w1 ⟨v1, rfl, o1', g1⟩
  have o1 : Bytes w1 (w.heap.size + 1) v1 (hdr seq m er) := o1'
  have hB1 : Below (w.heap.size + 1) (w.alloc (.cells #[.int .u64 seq, .string m, .string er] 26)) w1 := (Below.refl _ _).grown g1.grown (by simp) (by intro k h; cases h)
  have hs1 := hB1.size
  simp only [World.size_alloc] at hs1
  have hold1 : ∀ b o, b < w.heap.size → w1.cell? ⟨b, o, none⟩ = w.cell? ⟨b, o, none⟩ := fun b o h => (hB1.cell (p := ⟨b, o, none⟩) (by show b < w.heap.size + 1; omega)).trans (World.cell?_alloc_past _ _ _ (by exact h))
  have hs := (hsrc w1 hold1).1
  clear o1' hold1 g1
  go_wp2_with (first | (at_builtin; refine wpList_append_own_src _ rfl (.tmp 34) (.tmp 35) 23 23 rfl (w.heap.size + 1) 5 i0 (.int .u8 0) 1 1 Ybad.underlying23 hi hz0 hz1 hz2 rfl v1 _ _ rfl o1 _ len _ rfl hs ?c1 ?c2 ?c3 ?_))
  case c1 => unfold maxLen; omega
  case c2 => omega
  case c3 => omega
  intro v2 w2 o2' g2 _
  have o2 : Bytes w2 (w.heap.size + 1) v2 (hdr seq m er ++ body) := bytes_of o2' (by simp; omega) (by simp)
  have hB2 : Below (w.heap.size + 1) (w.alloc (.cells #[.int .u64 seq, .string m, .string er] 26)) w2 := hB1.grown g2.grown (by omega) (fun k h => (o1.lt k h).1)
  clear o2' o1 hs g2 hB1
  obtain ⟨g, N, cap2, hv2, hN, hgb, hgs, hnc, hcm, hgc⟩ : ∃ g N cap2, v2 = .slice (some ⟨g, 0, none⟩) N cap2 ∧ (hdr seq m er ++ body).length = N ∧ w.heap.size + 1 ≤ g ∧ g < w2.heap.size ∧ N ≤ cap2 ∧ cap2 ≤ 9223372036854775807 ∧ ∀ j, j < N → w2.cell? ⟨g, j, none⟩ = some (.int .u8 ((hdr seq m er ++ body).getD j 0)) := by
    rcases o2.2 with ⟨rfl, hn⟩ | ⟨g, cap2, cur, rfl, hb, hg, hnc, hcm, r⟩
    · have := HH.out
      rw [List.length_append] at hn
      omega
    · refine ⟨g, _, cap2, rfl, rfl, hb, (Array.getElem?_eq_some_iff.1 hg).1, hnc, by unfold maxLen at hcm; omega, fun j hj => ?_⟩
      rw [o2.cellAt j (by omega), List.getElem?_map]
      simp [List.getD, List.getElem?_eq_getElem hj]
  have HN : Hid ((hdr seq m er ++ body).length = N) := hN
  have HGC : Hid (∀ j, j < N → w2.cell? ⟨g, j, none⟩ = some (.int .u8 ((hdr seq m er ++ body).getD j 0))) := hgc
  rw [hv2]
  have HBL : Hid (body.length = len) := hbl
  clear o2 hv2 hgc hN hbl
  go_wp2_with fail
  refine (read_any g N cap2 seq m er body (hdr seq m er ++ body) _ hseq hm he (by have := HBL.out; omega) rfl HN.out hnc hcm hgs HGC.out).mono ?_
  rintro e w3 ⟨o, c, rfl, hB3, hrest⟩
  have hs2 := hB2.size
  have hs3 := hB3.size
  simp only [World.size_alloc] at hs2
  have hB : Below w.heap.size w w3 := (((Below.refl _ w).alloc (Nat.le_refl _) _).trans (hB2.mono (by omega))).trans (hB3.mono (by omega))
  have HR : Hid (∀ j, j < body.length → w3.cell? ⟨g, o + j, none⟩ = some (.int .u8 (body.getD j 0))) := hrest
  have hgw3 : g < w3.heap.size := by omega
  clear hrest HGC hB2 hB3
  go_wp2_with fail
  refine (equal_conv _ _ (strOfNums body) _ (conv_at _ g o body.length c body rfl (fun j hj => ?_)) ((hsrc _ (fun b o hb => ?_)).2)).mono ?_
  · exact (World.cell?_alloc_past _ _ _ (by exact hgw3)).trans (HR.out j hj)
  · exact (World.cell?_alloc_past _ _ _ (by have := hB.size; omega)).trans (hB.cell (p := ⟨b, o, none⟩) hb)
  rintro e w4 ⟨rfl, rfl⟩
  go_wp2
  go_ret
  exact ⟨rfl, hB.alloc hB.size _⟩

theorem law_long (a0 : Option Addr) (len cap : Nat) (seq : Nat) (m er : ByteArray) (w : World) (h : 1024 < len ∨ 1024 < m.size ∨ 1024 < er.size) :
    Calls Ybad.prog 3 #[.int .u64 seq, .string m, .string er, .slice a0 len cap] w fun e w' => e = .returned (.bool true) ∧ Below w.heap.size w w' := by
  by_cases h1 : 1024 < len
  · have h1' : (1024 : Int) < (len : Int) := by omega
    go_enter Ybad.func3, Ybad.ntmps3
    go_wp2
    go_ret
    exact ⟨rfl, Below.refl _ _⟩
  · have h1' : ¬ (1024 : Int) < (len : Int) := by omega
    by_cases h2 : 1024 < m.size
    · have h2' : (1024 : Int) < (m.size : Int) := by omega
      go_enter Ybad.func3, Ybad.ntmps3
      go_wp2
      go_ret
      exact ⟨rfl, Below.refl _ _⟩
    · have h2' : ¬ (1024 : Int) < (m.size : Int) := by omega
      have h3' : (1024 : Int) < (er.size : Int) := by omega
      go_enter Ybad.func3, Ybad.ntmps3
      go_wp2
      go_ret
      exact ⟨rfl, Below.refl _ _⟩
end Go.Proofs.YbulkdvaDoor
