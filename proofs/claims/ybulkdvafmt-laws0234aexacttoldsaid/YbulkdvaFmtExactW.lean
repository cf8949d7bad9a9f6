/-
  THE WALK OF 'LawS0234AExact', and of 'zzs0234aread', the law's own reading of bits.
-/
import Derived.Test.YbulkdvaFmtBits
import Derived.Test.YbulkdvaFmtFail
import Derived.Test.YbulkdvaFmtApp
namespace Go.Proofs.YbulkdvaFmt.Ex
open Go.RowKit Go.Extern.Stop Go.Stop Go.Extern

theorem info5 : (Ybaf.prog.info? 5).map (fun i => (i.zero, i.size, i.bytes)) = some (some (.int .u8 0), 1, 1) := by kernel_rfl

/-- A row of bytes of the call's own: its value's shape. -/
theorem owned_shape {w : World} {base n : Nat} {v : Value} {zs : List Int} (h : w.ownsRow base 5 1 v n (zs.map (Value.int .u8))) :
    ∃ ao cap, v = .slice ao n cap ∧ (0 < n → ∃ g, ao = some ⟨g, 0, none⟩ ∧ base ≤ g ∧ g < w.heap.size ∧ ∀ j, j < n → w.cell? ⟨g, j, none⟩ = some (.int .u8 (zs.getD j 0))) := by
  have hl := h.1
  rcases h.2 with ⟨rfl, rfl⟩ | ⟨g, cap, cur, rfl, hb, hg, r⟩
  · exact ⟨none, 0, rfl, fun h => absurd h (by omega)⟩
  · refine ⟨_, cap, rfl, fun _ => ⟨g, rfl, hb, (Array.getElem?_eq_some_iff.1 hg).1, fun j hj => ?_⟩⟩
    rw [h.cellAt j (by omega), List.getElem?_map]
    have : j < zs.length := by simp at hl; omega
    simp [List.getD, List.getElem?_eq_getElem this]

theorem bit_read (z : Int) (r : Nat) (hr : r < 8) (h0 : 0 ≤ z) (h1 : z < 256) : z * 2 ^ r % 256 / 128 = z / 2 ^ (7 - r) % 2 := by
  have := bit_other z r hr h0 h1
  rw [IntKind.wrap_u8] at this
  exact this
theorem step_read (zs : List Int) (p k : Nat) (h0 : 0 ≤ zs.getD ((p + k) / 8) 0) (h1 : zs.getD ((p + k) / 8) 0 < 256) :
    bits .or .u64 (IntKind.u64.wrap (rdv zs p k * 2)) (zs.getD ((p + k) / 8) 0 * 2 ^ ((p + k) % 8) % 256 / 128) = rdv zs p (k + 1) := by
  have hb := bitv_01 zs (p + k)
  rw [bit_read _ _ (by omega) h0 h1]
  have e : zs.getD ((p + k) / 8) 0 / 2 ^ (7 - (p + k) % 8) % 2 = bitv zs (p + k) := rfl
  rw [e, or_bit _ _ hb.1 hb.2]
  rfl

set_option maxHeartbeats 400000 in
theorem read_ok (g n cap st m : Nat) (zs : List Int) (w : World) (hn : n ≤ 1024) (hp : st + m ≤ n * 8)
    (hc : ∀ j, j < n → w.cell? ⟨g, j, none⟩ = some (.int .u8 (zs.getD j 0))) (hz : ∀ j, 0 ≤ zs.getD j 0 ∧ zs.getD j 0 < 256) :
    Calls Ybaf.prog 6 #[.slice (some ⟨g, 0, none⟩) n cap, .int .i64 st, .int .i64 m] w fun e w' => e = .returned (.int .u64 (rdv zs st m)) ∧ w' = w := by
  go_enter Ybaf.func6, Ybaf.ntmps6
  go_wp2
  go_loop [7, 8] (fun v i => ∃ k : Nat, k ≤ m ∧ i = .int .i64 k ∧ v = .int .u64 (rdv zs st k)) (fun _ i => m - (intOf i).toNat)
  case atStart => exact ⟨0, Nat.zero_le _, rfl, rfl⟩
  case round =>
    obtain ⟨k, hk, rfl, rfl⟩ := hrel
    by_cases hlt : k < m
    · have hcc : w.cell? ⟨g, (st + k) / 8, none⟩ = some (.int .u8 (zs.getD ((st + k) / 8) 0)) := hc _ (by omega)
      have hb : (st + k) / 8 < n := by omega
      clear hc
      go_wp2
      go_round
      case rel =>
        refine ⟨k + 1, by omega, by go_num, ?_⟩
        have := step_read zs st k (hz _).1 (hz _).2
        rw [List.getD_eq_getElem?_getD] at this
        exact congrArg (Value.int .u64) this
      case measure => simp [intOf]; omega
    · have hkm : k = m := by omega
      subst hkm
      go_wp2
      go_ret
      exact ⟨rfl, rfl⟩

theorem assert32 (B : Nat) (w : World) : (Instr.typeAssert (.iface 32 (.pointer (some ⟨B, 0, none⟩))) 29 32 true).run Ybaf.prog w = .ok (.tuple #[.pointer (some ⟨B, 0, none⟩), .bool true]) w := by kernel_rfl

set_option maxHeartbeats 1600000 in
theorem exact_walk (F : Interp) (a0 : Option Addr) (len cap : Nat) (zs : List Int) (a1 n at_ : Int) (w : World) (hF : F.answers w.tape) (hlen : len ≤ 1024)
    (hsrc : Src Ybaf.prog 1 22 (.slice a0 len cap) len (zs.map (Value.int .u8)) w) (hz : ∀ j, 0 ≤ zs.getD j 0 ∧ zs.getD j 0 < 256)
    (h1 : 0 ≤ a1) (h1' : a1 < 18446744073709551616) (hn : -9223372036854775808 ≤ n) (hn' : n ≤ 9223372036854775807)
    (st av : Nat) (hst : a1 % ((len : Int) * 8 + 1) = st) (hav : (len : Int) * 8 - st = av) :
    Calls Ybaf.prog 3 #[.slice a0 len cap, .int .u64 a1, .int .i64 n, .int .i64 at_] w fun e w' => e = .returned (.bool true) ∧ Below w.heap.size w w' := by
  obtain ⟨i0, hi, hz0, hz1, hz2⟩ := info_parts info5
  go_enter Ybaf.func3, Ybaf.ntmps3
  go_wp2_with (first | (at_builtin; refine wpList_append_own_src _ rfl _ _ 22 22 rfl w.heap.size 5 i0 (.int .u8 0) 1 1 Ybaf.underlying22 hi hz0 hz1 hz2 rfl _ 0 [] rfl (World.ownsRow_nil _ _ _ _) _ len _ rfl hsrc ?c1 ?c2 (Nat.le_refl _) ?_))
  case c1 => unfold maxLen; omega
  case c2 => omega
  intro v' w1 hown hgrow _
  obtain ⟨ao, cap', hv, hcells⟩ := owned_shape hown
  subst hv
  clear hown hsrc
  have hB : Below w.heap.size w w1 := (Below.refl _ _).grown hgrow (Nat.le_refl _) (by intro k h; cases h)
  have hs1 := hB.size
  go_wp2_with fail
  have hsl : st ≤ len * 8 := by omega
  by_cases hA : (av : Int) < n
  · refine (bits_short F w1.heap.size len cap' st ao n at_ _ _ (by show F.answers w1.tape; rw [hB.tape]; exact hF) hlen (by omega) hn' hsl (by simp) (by simp) (by simp)).mono ?_
    rintro e w2 ⟨B, rfl, hBB, hBc, hb2⟩
    simp only [World.size_alloc] at hBB hb2
    have n1 : w2.cell? ⟨w1.heap.size, 1, none⟩ = some (.int .i64 st) := (hb2.cell (p := ⟨w1.heap.size, 1, none⟩) (by simp)).trans (by simp)
    have n2 : w2.cell? ⟨w1.heap.size, 2, none⟩ = some (.int .i64 at_) := (hb2.cell (p := ⟨w1.heap.size, 2, none⟩) (by simp)).trans (by simp)
    have hB2 : Below w.heap.size w w2 := (hB.alloc hs1 _).trans (hb2.mono (by omega))
    have hta := assert32
    go_wp2
    go_ret
    exact ⟨rfl, hB2⟩
  · by_cases h0 : n ≤ 0
    · refine (bits_zero w1.heap.size len cap' st ao n _ _ hlen hsl h0 (by simp) (by simp) (by simp)).mono ?_
      rintro e w2 ⟨rfl, L1⟩
      have n1 := L1.next
      have n2 : w2.cell? ⟨w1.heap.size, 2, none⟩ = some (.int .i64 at_) := L1.at_.trans (by simp)
      have hB2 : Below w.heap.size w w2 := (hB.alloc hs1 _).grown L1.grown (by simp; omega) (by intro k h; cases h; exact hs1)
      clear L1
      go_wp2
      go_ret
      exact ⟨rfl, hB2⟩
    · obtain ⟨m, rfl⟩ : ∃ m : Nat, n = m := ⟨n.toNat, by omega⟩
      have hm : 0 < len := by omega
      obtain ⟨g, rfl, hgw, hgl, hgc⟩ := hcells hm
      refine (bits_some w1.heap.size g 0 len cap' st m zs _ _ hlen (by omega) (by simp) (by simp) (by simp) (by omega) (fun j hj => by rw [Nat.zero_add, World.cell?_alloc_past _ _ _ (by exact hgl)]; exact hgc j hj) hz).mono ?_
      rintro e w2 ⟨rfl, L1⟩
      have n1 := L1.next
      have n2 : w2.cell? ⟨w1.heap.size, 2, none⟩ = some (.int .i64 at_) := L1.at_.trans (by simp)
      have hc2 : ∀ j, j < len → w2.cell? ⟨g, j, none⟩ = some (.int .u8 (zs.getD j 0)) := fun j hj => L1.grown.cell ((World.cell?_alloc_past _ _ _ (by exact hgl)).trans (hgc j hj)) (by simp; omega)
      have hB2 : Below w.heap.size w w2 := (hB.alloc hs1 _).grown L1.grown (by simp; omega) (by intro k h; cases h; exact hs1)
      have H2 : Hid _ := hc2
      clear L1 hc2 hcells hgc
      go_wp2_with (go_at_call 6; refine (read_ok g len cap' st m zs _ hlen (by omega) H2.out hz).mono ?_; rintro e w3 ⟨rfl, rfl⟩)
      go_ret
      exact ⟨rfl, hB2⟩
end Go.Proofs.YbulkdvaFmt.Ex
