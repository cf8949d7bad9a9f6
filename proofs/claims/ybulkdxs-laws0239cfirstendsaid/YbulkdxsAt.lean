/-
  THE WALK OF 'opsAt'.
-/
import Derived.Test.YbulkdxsRows
import Derived.WalkKit
import Derived.WalkSpells
namespace Go.Proofs.Ybulkdxs
open Go.RowKit

theorem info32 : (Yba.prog.info? 32).map (fun i => (i.zero, i.size, i.bytes)) = some (some (.agg #[.int .u8 0, .int .i64 0, .string ⟨#[]⟩, .int .i64 0]), 4, 40) := by kernel_rfl
theorem info21 : (Yba.prog.info? 21).map (fun i => (i.zero, i.size, i.bytes)) = some (some (.int .i32 0), 1, 4) := by kernel_rfl

/-- The operations in a row of cells. -/
structure OpsAt (w : World) (b off n : Nat) (K T : Nat → Int) (S : Nat → ByteArray) : Prop where
  k : ∀ i, i < n → w.cell? ⟨b, off + i * 3, none⟩ = some (.int .u8 (K i))
  t : ∀ i, i < n → w.cell? ⟨b, off + i * 3 + 1, none⟩ = some (.int .i64 (T i))
  s : ∀ i, i < n → w.cell? ⟨b, off + i * 3 + 2, none⟩ = some (.string (S i))

/-- A block of N cells that may be written. -/
structure Room (w : World) (G N : Nat) : Prop where
  cell : ∀ o, o < N → ∃ v, w.cell? ⟨G, o, none⟩ = some v
  free : ∀ o, w.frozen? ⟨G, o, none⟩ = false
theorem World.block_lt_of_own {w : World} {base e size G n cap : Nat} {xs : List Value} (h : w.ownsRow base e size (.slice (some ⟨G, 0, none⟩) n cap) n xs) : G < w.heap.size := (h.lt G rfl).2
theorem Room.set {w : World} {G N : Nat} (h : Room w G N) (a : Addr) (v : Value) : Room (w.setCell a v) G N :=
  ⟨fun o ho => by
    obtain ⟨u, hu⟩ := h.cell o ho
    exact cell?_setCell_some hu, fun o => (World.frozen?_setCell _ _ _ _).trans (h.free o)⟩
theorem Room.of_own {w : World} {base e size G n cap : Nat} {xs : List Value} (h : w.ownsRow base e size (.slice (some ⟨G, 0, none⟩) n cap) n xs) : Room w G (n * size) :=
  ⟨fun o ho => by
    rw [h.cellAt o ho]
    exact ⟨_, List.getElem?_eq_getElem (by rw [h.1]; exact ho)⟩, h.frozenAt⟩

structure AtCell (w : World) (G j : Nat) (k t : Int) (s : ByteArray) (a : Int) : Prop where
  c0 : w.cell? ⟨G, j * 4, none⟩ = some (.int .u8 k)
  c1 : w.cell? ⟨G, j * 4 + 1, none⟩ = some (.int .i64 t)
  c2 : w.cell? ⟨G, j * 4 + 2, none⟩ = some (.string s)
  c3 : w.cell? ⟨G, j * 4 + 3, none⟩ = some (.int .i64 a)

def set4 (w : World) (G k : Nat) (a0 a1 a2 a3 : Value) : World := (((w.setCell ⟨G, k * 4, none⟩ a0).setCell ⟨G, k * 4 + 1, none⟩ a1).setCell ⟨G, k * 4 + 2, none⟩ a2).setCell ⟨G, k * 4 + 3, none⟩ a3
theorem set4_other (w : World) (G k o : Nat) (a0 a1 a2 a3 : Value) (h : o < k * 4 ∨ k * 4 + 3 < o) : (set4 w G k a0 a1 a2 a3).cell? ⟨G, o, none⟩ = w.cell? ⟨G, o, none⟩ := by
  unfold set4
  have e : ∀ (W : World) (q : Nat) (a : Value), o ≠ q → (W.setCell ⟨G, q, none⟩ a).cell? ⟨G, o, none⟩ = W.cell? ⟨G, o, none⟩ := fun W q a hq => World.cell?_setCell_other _ _ _ _ (by intro he; injection he with _ e2; omega)
  rw [e _ _ _ (by omega), e _ _ _ (by omega), e _ _ _ (by omega), e _ _ _ (by omega)]
theorem set4_cells {w : World} {G k : Nat} {v0 v1 v2 v3 : Value} (a0 a1 a2 a3 : Value) (c0 : w.cell? ⟨G, k * 4, none⟩ = some v0) (c1 : w.cell? ⟨G, k * 4 + 1, none⟩ = some v1) (c2 : w.cell? ⟨G, k * 4 + 2, none⟩ = some v2) (c3 : w.cell? ⟨G, k * 4 + 3, none⟩ = some v3) :
    (set4 w G k a0 a1 a2 a3).cell? ⟨G, k * 4, none⟩ = some a0 ∧ (set4 w G k a0 a1 a2 a3).cell? ⟨G, k * 4 + 1, none⟩ = some a1 ∧ (set4 w G k a0 a1 a2 a3).cell? ⟨G, k * 4 + 2, none⟩ = some a2 ∧ (set4 w G k a0 a1 a2 a3).cell? ⟨G, k * 4 + 3, none⟩ = some a3 := by
  unfold set4
  refine ⟨?_, ?_, ?_, ?_⟩
  · rw [World.cell?_setCell_other _ _ _ _ (by simp), World.cell?_setCell_other _ _ _ _ (by simp), World.cell?_setCell_other _ _ _ _ (by simp), World.cell?_setCell_same _ _ _ c0]
  · rw [World.cell?_setCell_other _ _ _ _ (by simp), World.cell?_setCell_other _ _ _ _ (by simp)]
    exact World.cell?_setCell_same _ _ _ ((World.cell?_setCell_other _ _ _ _ (by simp)).trans c1)
  · rw [World.cell?_setCell_other _ _ _ _ (by simp)]
    exact World.cell?_setCell_same _ _ _ ((World.cell?_setCell_other _ _ _ _ (by simp)).trans ((World.cell?_setCell_other _ _ _ _ (by simp)).trans c2))
  · exact World.cell?_setCell_same _ _ _ ((World.cell?_setCell_other _ _ _ _ (by simp)).trans ((World.cell?_setCell_other _ _ _ _ (by simp)).trans ((World.cell?_setCell_other _ _ _ _ (by simp)).trans c3)))

theorem at_step {w : World} {G m k : Nat} {K T : Nat → Int} {S : Nat → ByteArray} {idx : Nat → Nat} (hr : Room w G (m * 4)) (hk : k < m) (hat : ∀ j, j < k → AtCell w G j (K (idx j)) (T (idx j)) (S (idx j)) (idx j + 1)) :
    ∀ j, j < k + 1 → AtCell (set4 w G k (.int .u8 (K (idx k))) (.int .i64 (T (idx k))) (.string (S (idx k))) (.int .i64 (idx k + 1))) G j (K (idx j)) (T (idx j)) (S (idx j)) (idx j + 1) := by
  intro j hj
  by_cases hjk : j = k
  · subst hjk
    obtain ⟨v0, c0⟩ := hr.cell (j * 4) (by omega)
    obtain ⟨v1, c1⟩ := hr.cell (j * 4 + 1) (by omega)
    obtain ⟨v2, c2⟩ := hr.cell (j * 4 + 2) (by omega)
    obtain ⟨v3, c3⟩ := hr.cell (j * 4 + 3) (by omega)
    obtain ⟨e0, e1, e2, e3⟩ := set4_cells (.int .u8 (K (idx j))) (.int .i64 (T (idx j))) (.string (S (idx j))) (.int .i64 (idx j + 1)) c0 c1 c2 c3
    exact ⟨e0, e1, e2, e3⟩
  · have h := hat j (by omega)
    exact ⟨(set4_other _ _ _ _ _ _ _ _ (by omega)).trans h.c0, (set4_other _ _ _ _ _ _ _ _ (by omega)).trans h.c1, (set4_other _ _ _ _ _ _ _ _ (by omega)).trans h.c2, (set4_other _ _ _ _ _ _ _ _ (by omega)).trans h.c3⟩

set_option maxHeartbeats 400000 in
theorem opsAt_any (b off n c : Nat) (K T : Nat → Int) (S : Nat → ByteArray) (g m cg : Nat) (idx : Nat → Nat) (w : World) (hn : n ≤ 1024) (hm : m ≤ 1024) (hidx : ∀ j, j < m → idx j < n)
    (ho : OpsAt w b off n K T S) (hg : ∀ j, j < m → w.cell? ⟨g, j, none⟩ = some (.int .i32 (idx j))) (hbw : b < w.heap.size) (hgw : g < w.heap.size) :
    Calls Yba.prog 6 #[.slice (some ⟨b, off, none⟩) n c, .slice (some ⟨g, 0, none⟩) m cg] w fun e w' => e = .returned (.slice (some ⟨w.heap.size, 0, none⟩) m m) ∧ Below w.heap.size w w' ∧ w.heap.size < w'.heap.size ∧ ∀ j, j < m → AtCell w' w.heap.size j (K (idx j)) (T (idx j)) (S (idx j)) (idx j + 1) := by
  obtain ⟨i0, hi, hz0, hz1, hz2⟩ := info_parts info32
  go_enter Yba.func6, Yba.ntmps6
  go_wp2_with (first | (refine wpList_make_full _ rfl (.tmp 9) (.tmp 9) 24 rfl w.heap.size 32 i0 _ 4 Yba.underlying24 hi hz0 hz1 _ _ _ _ m rfl rfl rfl rfl ?c1 ?c2 (Nat.le_refl _) ?_))
  case c1 => rw [hz2]; omega
  case c2 => unfold maxLen; omega
  intro w1 hown hgrow
  have hroom := Room.of_own hown
  have hB : Below w.heap.size w w1 := (Below.refl _ _).grown hgrow (Nat.le_refl _) (by intro k h; cases h)
  have hG : w.heap.size < w1.heap.size := World.block_lt_of_own hown
  clear hown hgrow
  go_wp2
  go_loopw [13] (fun i wr => ∃ k : Nat, k ≤ m ∧ i = .int .i64 k ∧ Room wr w.heap.size (m * 4) ∧ Below w.heap.size w wr ∧ w.heap.size < wr.heap.size ∧ ∀ j, j < k → AtCell wr w.heap.size j (K (idx j)) (T (idx j)) (S (idx j)) (idx j + 1)) (fun i _ => m - (intOf i).toNat)
  case atStart => exact ⟨0, Nat.zero_le _, rfl, hroom, hB, hG, fun j hj => absurd hj (by omega)⟩
  case round =>
    obtain ⟨k, hk, rfl, hrm, hBr, hGr, hat⟩ := hrel
    by_cases hlt : k < m
    · have hik := hidx k hlt
      have q0 := (hBr.cell (p := ⟨b, off + idx k * 3, none⟩) hbw).trans (ho.k _ hik)
      have q1 := (hBr.cell (p := ⟨b, off + idx k * 3 + 1, none⟩) hbw).trans (ho.t _ hik)
      have q2 := (hBr.cell (p := ⟨b, off + idx k * 3 + 2, none⟩) hbw).trans (ho.s _ hik)
      have q3 := (hBr.cell (p := ⟨g, k, none⟩) hgw).trans (hg k hlt)
      obtain ⟨v0, c0⟩ := hrm.cell (k * 4) (by omega)
      obtain ⟨v1, c1⟩ := hrm.cell (k * 4 + 1) (by omega)
      obtain ⟨v2, c2⟩ := hrm.cell (k * 4 + 2) (by omega)
      obtain ⟨v3, c3⟩ := hrm.cell (k * 4 + 3) (by omega)
      have f0 := hrm.free (k * 4)
      have f1 := hrm.free (k * 4 + 1)
      have f2 := hrm.free (k * 4 + 2)
      have f3 := hrm.free (k * 4 + 3)
      have HO : Hid (OpsAt w b off n K T S) := ho
      have HA : Hid (∀ j, j < k → AtCell wr w.heap.size j (K (idx j)) (T (idx j)) (S (idx j)) (idx j + 1)) := hat
      have HR : Hid (Room wr w.heap.size (m * 4)) := hrm
      clear ho hat hrm hidx hg
      go_wp2
      go_roundw
      case rel => exact ⟨k + 1, by omega, by go_num, (((HR.out.set _ _).set _ _).set _ _).set _ _, (((hBr.setCell (Nat.le_refl _) _).setCell (Nat.le_refl _) _).setCell (Nat.le_refl _) _).setCell (Nat.le_refl _) _, by simpa [World.setCell] using hGr, at_step HR.out hlt HA.out⟩
      case measure => simp [intOf]; omega
    · have hkm : k = m := by omega
      subst hkm
      go_wp2
      go_ret
      exact ⟨rfl, hBr, hGr, hat⟩

set_option maxHeartbeats 400000 in
/-- No index: nothing is read of the operations. -/
theorem opsAt_none (ao ai : Option Addr) (n c ci : Nat) (w : World) :
    Calls Yba.prog 6 #[.slice ao n c, .slice ai 0 ci] w fun e w' => e = .returned (.slice (some ⟨w.heap.size, 0, none⟩) 0 0) ∧ Below w.heap.size w w' ∧ w.heap.size < w'.heap.size := by
  obtain ⟨i0, hi, hz0, hz1, hz2⟩ := info_parts info32
  go_enter Yba.func6, Yba.ntmps6
  go_wp2_with (first | (refine wpList_make_full _ rfl (.tmp 9) (.tmp 9) 24 rfl w.heap.size 32 i0 _ 4 Yba.underlying24 hi hz0 hz1 _ _ _ _ 0 rfl rfl rfl rfl ?c1 ?c2 (Nat.le_refl _) ?_))
  case c1 => omega
  case c2 => unfold maxLen; omega
  intro w1 hown hgrow
  have hB : Below w.heap.size w w1 := (Below.refl _ _).grown hgrow (Nat.le_refl _) (by intro k h; cases h)
  have hG : w.heap.size < w1.heap.size := World.block_lt_of_own hown
  clear hown hgrow
  go_wp2
  refine wp_loop_rounds 1 ?_
  rw [rounds_succ]
  go_wp2
  go_ret
  exact ⟨rfl, hB, hG⟩
end Go.Proofs.Ybulkdxs
