/-
  THE WALK OF '(*header).append' onto a row of the call's own, AND OF bytes.Equal AT TWO ROWS OF THE SAME BYTES.
-/
import Derived.Test.YbulkdvaDoorUv
import Derived.Laws.BytesArg
namespace Go.Proofs.YbulkdvaDoor
open Go.RowKit

/-- A string's bytes as numbers. -/
def nums (s : ByteArray) : List Int := s.data.toList.map fun b => (b.toNat : Int)
theorem nums_len (s : ByteArray) : (nums s).length = s.size := by simp [nums]
theorem byteCells_nums (s : ByteArray) : byteCells s = (nums s).map (Value.int .u8) := by simp [byteCells, nums]

theorem Grow.cell {w w' : World} {v v' : Value} (h : Grow w v w' v') {a : Addr} {u : Value} (hc : w.cell? a = some u) (hne : v.ownBlock ≠ some a.block) : w'.cell? a = some u :=
  h.grown.cell hc (fun e => hne e.symm)
theorem Grow.ne {w w' : World} {v v' : Value} (h : Grow w v w' v') {H : Nat} (hH : H < w.heap.size) (hne : v.ownBlock ≠ some H) : v'.ownBlock ≠ some H := by
  rcases h.moved with e | ⟨k, e, hk⟩
  · rw [e]; exact hne
  · rw [e]; intro he; cases he; omega

/-- What the header's bytes are. -/
def hdr (seq : Nat) (m e : ByteArray) : List Int := uv seq ++ (uv m.size ++ (nums m ++ (uv e.size ++ nums e)))
theorem hdr_len (seq : Nat) (m e : ByteArray) : (hdr seq m e).length ≤ 30 + m.size + e.size := by
  have a := uv_len seq
  have b := uv_len m.size
  have c := uv_len e.size
  simp only [hdr, List.length_append, nums_len]
  omega

set_option maxHeartbeats 400000 in
theorem app_any (base H : Nat) (v : Value) (xs : List Int) (seq : Nat) (m er : ByteArray) (w : World) (hseq : seq < 18446744073709551616) (hm : m.size ≤ 1024) (he : er.size ≤ 1024)
    (hown : Bytes w base v xs) (hl : xs.length ≤ 2000) (hbase : base ≤ w.heap.size) (hne : v.ownBlock ≠ some H)
    (h0 : w.cell? ⟨H, 0, none⟩ = some (.int .u64 seq)) (h1 : w.cell? ⟨H, 1, none⟩ = some (.string m)) (h2 : w.cell? ⟨H, 2, none⟩ = some (.string er)) :
    Calls Ybad.prog 4 #[.pointer (some ⟨H, 0, none⟩), v] w fun e w' => ∃ v', e = .returned v' ∧ Bytes w' base v' (xs ++ hdr seq m er) ∧ Grow w v w' v' := by
  obtain ⟨i0, hi, hz0, hz1, hz2⟩ := info_parts info5
  have hHs : H < w.heap.size := World.block_lt_of_cell? w _ h0
  have u1 := uv_len seq
  have u2 := uv_len m.size
  have u3 := uv_len er.size
  go_enter Ybad.func4, Ybad.ntmps4
  go_wp2_with fail
  refine (uv_any7 base v xs seq _ hseq hown (by omega) hbase).mono ?_
  rintro e w1 ⟨v1, rfl, o1, g1⟩
  have c1 := g1.cell h1 hne
  have s1 := g1.grown.size
  go_wp2_with fail
  refine (uv_any7 base v1 (xs ++ uv seq) m.size _ (by omega) o1 (by rw [List.length_append]; omega) (by omega)).mono ?_
  rintro e w2 ⟨v2, rfl, o2, g2⟩
  have G2 := g1.trans g2
  have c2 := G2.cell h1 hne
  have s2 := G2.grown.size
  clear c1
  go_wp2_with (first | (at_builtin; refine wpList_append_own_src _ rfl (.tmp 19) (.tmp 23) 23 9 rfl base 5 i0 (.int .u8 0) 1 1 Ybad.underlying23 hi hz0 hz1 hz2 rfl v2 _ _ rfl o2 (.string m) m.size (byteCells m) rfl (Src.ofString _ Ybad.underlying9 m) ?c1 ?c2 ?c3 ?_))
  case c1 => unfold maxLen; simp only [List.length_append]; omega
  case c2 => simp only [List.length_append]; omega
  case c3 => omega
  intro v3 w3 o3' g3 _
  have o3 : Bytes w3 base v3 (xs ++ uv seq ++ uv m.size ++ nums m) := bytes_of o3' (by simp [nums_len]; omega) (by simp [byteCells_nums])
  have G3 := G2.trans g3
  have c3 := G3.cell h2 hne
  have s3 := G3.grown.size
  clear c2 o3'
  go_wp2_with fail
  refine (uv_any7 base v3 _ er.size _ (by omega) o3 (by simp only [List.length_append, nums_len]; omega) (by omega)).mono ?_
  rintro e w4 ⟨v4, rfl, o4, g4⟩
  have G4 := G3.trans g4
  have c4 := G4.cell h2 hne
  have s4 := G4.grown.size
  clear c3
  go_wp2_with (first | (at_builtin; refine wpList_append_own_src _ rfl (.tmp 33) (.tmp 37) 23 9 rfl base 5 i0 (.int .u8 0) 1 1 Ybad.underlying23 hi hz0 hz1 hz2 rfl v4 _ _ rfl o4 (.string er) er.size (byteCells er) rfl (Src.ofString _ Ybad.underlying9 er) ?d1 ?d2 ?d3 ?_))
  case d1 => unfold maxLen; simp only [List.length_append, nums_len]; omega
  case d2 => simp only [List.length_append, nums_len]; omega
  case d3 => omega
  intro v5 w5 o5' g5 _
  have o5 : Bytes w5 base v5 (xs ++ hdr seq m er) := bytes_of o5' (by simp [hdr, nums_len]; omega) (by simp [byteCells_nums, hdr])
  have G5 := G4.trans g5
  clear c4 o5'
  go_wp2
  go_ret
  exact ⟨_, rfl, o5, G5⟩

theorem conv_own {w : World} {base : Nat} {v : Value} {zs : List Int} (h : Bytes w base v zs) : (convert 23 9 v).run Ybad.prog w = .ok (.string (strOfNums zs)) w := by
  rcases h.2 with ⟨rfl, hn⟩ | ⟨g, cap, cur, rfl, hb, hg, r⟩
  · have : zs = [] := List.eq_nil_of_length_eq_zero hn
    subst this
    exact run_convert_bytes_nil w 23 5 Ybad.underlying23 Ybad.underlying5 0 0 9 Ybad.underlying9
  · refine run_convert_bytes_arg w 23 5 Ybad.underlying23 Ybad.underlying5 g 0 zs.length cap zs rfl (fun j hj => ?_) 9 Ybad.underlying9
    rw [Nat.zero_add, h.cellAt j (by omega), List.getElem?_map]
    simp [List.getD, List.getElem?_eq_getElem hj]

theorem equal_own (b1 b2 : Nat) (v1 v2 : Value) (zs : List Int) (w : World) (h1 : Bytes w b1 v1 zs) (h2 : Bytes w b2 v2 zs) :
    Calls Ybad.prog 6 #[v1, v2] w fun e w' => e = .returned (.bool true) ∧ w' = w := by
  have e1 := conv_own h1
  have e2 := conv_own h2
  clear h1 h2
  go_enter Ybad.func6, Ybad.ntmps6
  go_wp2
  go_ret
  exact ⟨by simp, rfl⟩

end Go.Proofs.YbulkdvaDoor
