/-
  THE WALK OF 'LawS0234ASplit': the law itself, its three calls of 'bits' by their contract.
-/
import Derived.Test.YbulkdvaFmtBits
import Derived.Test.YbulkdvaFmtApp
namespace Go.Proofs.YbulkdvaFmt
open Go.RowKit

theorem info5 : (Ybaf.prog.info? 5).map (fun i => (i.zero, i.size, i.bytes)) = some (some (.int .u8 0), 1, 1) := by kernel_rfl

/-- A row of bytes of the call's own: its value's shape. -/
theorem owned_shape {w : World} {base n : Nat} {v : Value} {zs : List Int} (h : w.ownsRow base 5 1 v n (zs.map (Value.int .u8))) :
    ∃ ao cap, v = .slice ao n cap ∧ (0 < n → ∃ g, ao = some ⟨g, 0, none⟩ ∧ base ≤ g ∧ g < w.heap.size ∧ ∀ j, j < n → w.cell? ⟨g, j, none⟩ = some (.int .u8 (zs.getD j 0))) := by
  have hl := h.1
  rcases h.2 with ⟨rfl, rfl⟩ | ⟨g, cap, cur, rfl, hb, hg, r⟩
  · exact ⟨none, 0, rfl, fun h => absurd h (by omega)⟩
  · refine ⟨_, cap, rfl, fun _ => ⟨g, rfl, hb, (Array.getElem?_eq_some_iff.1 hg).1, fun j hj => ?_⟩⟩
    rw [h.cellAt j (by omega), List.getElem?_map]
    have : j < zs.length := by simp at hl; omega
    simp [List.getD, List.getElem?_eq_getElem this]

theorem below_drewN {B : Nat} {a w : World} (h : Below B a w) (n : Nat) : Below B a (w.drewN n) := h.trans ⟨rfl, rfl, rfl, Nat.le_refl _, fun _ _ => rfl⟩
theorem old1 (w1 : World) (o : Obj) : ∀ b o', b < w1.heap.size → (w1.alloc o).cell? ⟨b, o', none⟩ = w1.cell? ⟨b, o', none⟩ := fun b o' hb => World.cell?_alloc_past _ _ _ (by exact hb)
theorem old2 {R : Nat} {sv : Value} {q : Int} {w1 wa wb : World} (L : Left5 R sv q wa wb) {n : Nat} (h : ∀ b o', b < n → wa.cell? ⟨b, o', none⟩ = w1.cell? ⟨b, o', none⟩) (hR : n ≤ R := by omega) (hn : n ≤ wa.heap.size := by first | omega | (simp; omega) | simp) :
    ∀ b o', b < n → wb.cell? ⟨b, o', none⟩ = w1.cell? ⟨b, o', none⟩ := fun b o' hb =>
  (World.cell?_of_block (w := wa) (a := ⟨b, o', none⟩) (L.grown.block b (by omega) (by simp; omega))).trans (h b o' hb)
theorem old3 {w1 wa : World} {n : Nat} (h : ∀ b o', b < n → wa.cell? ⟨b, o', none⟩ = w1.cell? ⟨b, o', none⟩) (o : Obj) (hn : n ≤ wa.heap.size := by omega) : ∀ b o', b < n → (wa.alloc o).cell? ⟨b, o', none⟩ = w1.cell? ⟨b, o', none⟩ := fun b o' hb => (World.cell?_alloc_past _ _ _ (by show b < wa.heap.size; omega)).trans (h b o' hb)

theorem next_eq (st k1 k2 : Nat) (X : Int) (hX : X = k2) (h : st + k1 + k2 ≤ 8192) : (st : Int) + k1 + k2 = IntKind.i64.wrap (IntKind.i64.wrap (st + k1) + X) := by
  simp only [IntKind.wrap_i64]
  omega
theorem next_eq0 (st k1 : Nat) (h : st + k1 ≤ 8192) : (st : Int) + k1 = IntKind.i64.wrap (IntKind.i64.wrap (st + k1)) := by
  simp only [IntKind.wrap_i64]
  omega

set_option maxHeartbeats 1600000 in
theorem split_walk (a0 : Option Addr) (len cap : Nat) (zs : List Int) (a1 : Int) (c1 c2 : Int) (w : World) (hlen : len ≤ 1024)
    (hsrc : Src Ybaf.prog 1 22 (.slice a0 len cap) len (zs.map (Value.int .u8)) w) (hz : ∀ j, 0 ≤ zs.getD j 0 ∧ zs.getD j 0 < 256)
    (h1 : 0 ≤ a1) (h1' : a1 < 18446744073709551616) (hc1 : 0 ≤ c1) (hc1' : c1 < 256) (hc2 : 0 ≤ c2) (hc2' : c2 < 256)
    (st av d1 d2 k1 k2 : Nat) (hst : a1 % ((len : Int) * 8 + 1) = st) (hav : (len : Int) * 8 - st = av) (hd1 : c1 % 33 = d1) (hd2 : c2 % 33 = d2)
    (hk1 : (k1 = av ∧ av < d1) ∨ (k1 = d1 ∧ d1 ≤ av)) (hk2 : (av = k1 + k2 ∧ k2 < d2) ∨ (k2 = d2 ∧ k1 + d2 ≤ av)) :
    Calls Ybaf.prog 4 #[.slice a0 len cap, .int .u64 a1, .int .u8 c1, .int .u8 c2] w fun e w' => e = .returned (.bool true) ∧ Below w.heap.size w w' := by
  obtain ⟨i0, hi, hz0, hz1, hz2⟩ := info_parts info5
  have hb1 : k1 ≤ 32 := by omega
  have hb2 : k2 ≤ 32 := by omega
  have hsum : st + k1 + k2 ≤ len * 8 := by omega
  have HS : Hid (∀ X : Int, X = k2 → (bits .or .u64 (IntKind.u64.wrap (rdv zs st k1 * 2 ^ min (IntKind.u64.wrap X).toNat 64)) (rdv zs (st + k1) k2) == rdv zs st (k1 + k2)) = true) := by
    intro X hX
    subst hX
    rw [wraps_u64 (k2 : Int) (by omega) (by omega), Int.toNat_natCast, Nat.min_eq_left (by omega), split_or zs st k1 k2 hb1 hb2]
    simp
  have hways : (k1 = av ∧ k1 < d1 ∧ k2 ≤ 0 ∧ 0 < d2) ∨ (k1 = av ∧ k1 < d1 ∧ k2 ≤ 0 ∧ d2 = 0) ∨ (k1 = d1 ∧ av = k1 + k2 ∧ k2 < d2) ∨ (k1 = d1 ∧ k2 = d2 ∧ k1 + k2 ≤ av) := by omega
  clear hk1 hk2
  go_enter Ybaf.func4, Ybaf.ntmps4
  go_wp2_with (first | (at_builtin; refine wpList_append_own_src _ rfl _ _ 22 22 rfl w.heap.size 5 i0 (.int .u8 0) 1 1 Ybaf.underlying22 hi hz0 hz1 hz2 rfl _ 0 [] rfl (World.ownsRow_nil _ _ _ _) _ len _ rfl hsrc ?c1 ?c2 (Nat.le_refl _) ?_))
  case c1 => unfold maxLen; omega
  case c2 => omega
  intro v' w1 hown hgrow _
  obtain ⟨ao, cap', hv, hcells⟩ := owned_shape hown
  subst hv
  clear hown hsrc
  have hB : Below w.heap.size w w1 := (Below.refl _ _).grown hgrow (Nat.le_refl _) (by intro k h; cases h)
  have hcells' : ∀ (w2 : World) (R : Nat), w1.heap.size ≤ R → (∀ b o, b < w1.heap.size → w2.cell? ⟨b, o, none⟩ = w1.cell? ⟨b, o, none⟩) → 0 < len → ∃ g, ao = some ⟨g, 0, none⟩ ∧ g ≠ R ∧ ∀ j, j < len → w2.cell? ⟨g, j, none⟩ = some (.int .u8 (zs.getD j 0)) := by
    intro w2 R hR hsame h
    obtain ⟨g, e, _, hg, hc⟩ := hcells h
    exact ⟨g, e, by omega, fun j hj => (hsame g j hg).trans (hc j hj)⟩
  clear hcells
  have HC : Hid _ := hcells'
  clear hcells'
  rcases hways with ⟨rfl, hw1, hw0, hw2⟩ | ⟨rfl, hw1, hw0, rfl⟩ | ⟨rfl, rfl, hw1⟩ | ⟨rfl, rfl, hw1⟩
  all_goals
    go_wp2_with fail
    refine (bits_ok w1.heap.size len cap' st ao _ k1 (by omega) zs _ _ hlen (by omega) (by simp) (by simp) (by simp) (HC.out _ _ (Nat.le_refl _) (fun b o hb => by simp [World.cell?_alloc_past, hb])) hz).mono ?_
    rintro e w2 ⟨rfl, L1⟩
    have hs2 : w1.heap.size + 1 ≤ w2.heap.size := by have := L1.grown.size; simpa using this
    go_wp2_with fail
    refine (bits_ok w1.heap.size len cap' (st + k1) ao _ k2 (by omega) zs _ _ hlen (by omega) L1.row L1.next L1.free (HC.out _ _ (Nat.le_refl _) (old2 L1 (old1 _ _))) hz).mono ?_
    rintro e w3 ⟨rfl, L2⟩
    have hs3 : w1.heap.size + 1 ≤ w3.heap.size := by have := L2.grown.size; omega
    go_wp2_with fail
    refine (bits_ok w3.heap.size len cap' st ao _ (k1 + k2) (by omega) zs _ _ hlen (by omega) (by simp) (by simp) (by simp) (HC.out _ _ (by omega) (old3 (old2 L2 (old2 L1 (old1 _ _))) _)) hz).mono ?_
    rintro e w4 ⟨rfl, L3⟩
    have hs4 : w3.heap.size + 1 ≤ w4.heap.size := by have := L3.grown.size; simpa using this
    have n1 : w4.cell? ⟨w1.heap.size, 1, none⟩ = some (.int .i64 (st + k1 + k2 : Nat)) := L3.grown.cell ((World.cell?_alloc_past _ _ _ (by omega)).trans L2.next) (by simp; omega)
    have n2 : w4.cell? ⟨w3.heap.size, 1, none⟩ = some (.int .i64 (st + k1 + k2 : Nat)) := by rw [Nat.add_assoc]; exact L3.next
    have hB4 : Below w.heap.size w w4 := ((((hB.alloc hB.size _).grown L1.grown (by have := hB.size; simp; omega) (by intro k h; cases h; exact hB.size)).grown L2.grown (by have := hB.size; omega) (by intro k h; cases h; exact hB.size)).alloc (by have := hB.size; omega) _).grown L3.grown (by have := hB.size; simp; omega) (by intro k h; cases h; have := hB.size; omega)
    clear L1 L2 L3 HC hgrow hst hav
    go_wp2_with fail
  rotate_left 3
  · have hq := HS.out k2 rfl
    go_quiet (fail)
    go_wp2
    go_ret
    refine ⟨?_, below_drewN hB4 _⟩
    simp
    exact next_eq _ _ _ _ (by omega) (by omega)
  · obtain rfl : k2 = 0 := by omega
    have hq := HS.out 0 rfl
    rw [Nat.add_zero] at hq
    go_quiet (fail)
    go_wp2
    go_ret
    refine ⟨?_, below_drewN hB4 _⟩
    simp
    exact next_eq0 _ _ (by omega)
  · obtain rfl : k2 = 0 := by omega
    have hq := HS.out 0 rfl
    rw [Nat.add_zero] at hq
    go_quiet (fail)
    go_wp2
    go_ret
    refine ⟨?_, below_drewN hB4 _⟩
    simp
    exact next_eq0 _ _ (by omega)
  · have hq := HS.out (k1 + k2 - k1) (by omega)
    go_quiet (fail)
    go_wp2
    go_ret
    refine ⟨?_, below_drewN hB4 _⟩
    simp
    exact next_eq _ _ _ _ (by omega) (by omega)
end Go.Proofs.YbulkdvaFmt
