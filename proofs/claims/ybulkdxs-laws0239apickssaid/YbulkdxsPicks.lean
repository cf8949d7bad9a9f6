/-
  THE WALK OF 'LawS0239APicks'.
-/
import Derived.Test.YbulkdxsAt
import Derived.Deep.QuietTactic
import Derived.BigQuiet
namespace Go.Proofs.Ybulkdxs
open Go.RowKit

theorem eql_nil (a : Addr) (n c : Nat) (w : World) : (binOp .eql 24 (.slice (some a) n c) (.slice none 0 0)).run Yba.prog w = .ok (.bool false) w :=
  Lib.run_eql_slice_nil w 24 32 (some a) n c 0 0 Yba.underlying24
theorem neq_nil (a : Addr) (n c : Nat) (w : World) : (binOp .neq 24 (.slice (some a) n c) (.slice none 0 0)).run Yba.prog w = .ok (.bool true) w :=
  run_neq_slice_nil_any w 24 32 (some a) n c 0 0 Yba.underlying24

theorem int_room {w : World} {G m k : Nat} {idx : Nat → Nat} (hr : Room w G m) (hk : k < m) (hat : ∀ j, j < k → w.cell? ⟨G, j, none⟩ = some (.int .i32 (idx j))) :
    ∀ j, j < k + 1 → (w.setCell ⟨G, k, none⟩ (.int .i32 (idx k))).cell? ⟨G, j, none⟩ = some (.int .i32 (idx j)) := by
  intro j hj
  by_cases hjk : j = k
  · subst hjk
    obtain ⟨v, c⟩ := hr.cell j hk
    exact World.cell?_setCell_same _ _ _ c
  · exact (World.cell?_setCell_other _ _ _ _ (by intro he; injection he with _ e2; omega)).trans (hat j (by omega))

set_option maxHeartbeats 800000 in
theorem picks_some (b off n c : Nat) (K T : Nat → Int) (S : Nat → ByteArray) (br offr m cr : Nat) (R : Nat → Int) (idx : Nat → Nat) (w : World) (hn : n ≤ 1024) (hn0 : 0 < n) (hm : m ≤ 1024) (hm0 : 0 < m)
    (ho : OpsAt w b off n K T S) (hr : ∀ j, j < m → w.cell? ⟨br, offr + j, none⟩ = some (.int .u32 (R j))) (hR : ∀ j, 0 ≤ R j ∧ R j ≤ 4294967295) (hmod : ∀ j, R j % (n : Int) = (idx j : Int)) (hidx : ∀ j, idx j < n) (hbw : b < w.heap.size) (hrw : br < w.heap.size) :
    Calls Yba.prog 3 #[.slice (some ⟨b, off, none⟩) n c, .slice (some ⟨br, offr, none⟩) m cr] w fun e w' => e = .returned (.bool true) ∧ Below w.heap.size w w' := by
  obtain ⟨i0, hi, hz0, hz1, hz2⟩ := info_parts info21
  have hne : ((n : Int) == 0) = false := by simp; omega
  have HO : Hid (OpsAt w b off n K T S) := ho
  have HRW : Hid (∀ j, j < m → w.cell? ⟨br, offr + j, none⟩ = some (.int .u32 (R j))) := hr
  have HID : Hid (∀ j, idx j < n) := hidx
  have HRB : Hid (∀ j, 0 ≤ R j ∧ R j ≤ 4294967295) := hR
  clear ho hr hidx hR
  go_enter Yba.func3, Yba.ntmps3
  go_wp2_with (first | (refine wpList_make_full _ rfl (.tmp 32) (.tmp 32) 26 rfl w.heap.size 21 i0 _ 1 Yba.underlying26 hi hz0 hz1 _ _ _ _ m rfl rfl rfl rfl ?c1 ?c2 (Nat.le_refl _) ?_))
  case c1 => rw [hz2]; omega
  case c2 => unfold maxLen; omega
  intro w1 hown hgrow
  have hroom : Room w1 w.heap.size m := by have := Room.of_own hown; simpa using this
  have hB : Below w.heap.size w w1 := (Below.refl _ _).grown hgrow (Nat.le_refl _) (by intro k h; cases h)
  have hG : w.heap.size < w1.heap.size := World.block_lt_of_own hown
  clear hown hgrow
  go_wp2
  go_loopw [7] (fun i wr => ∃ k : Nat, k ≤ m ∧ i = .int .i64 k ∧ Room wr w.heap.size m ∧ Below w.heap.size w wr ∧ w.heap.size < wr.heap.size ∧ ∀ j, j < k → wr.cell? ⟨w.heap.size, j, none⟩ = some (.int .i32 (idx j))) (fun i _ => m - (intOf i).toNat)
  case atStart => exact ⟨0, Nat.zero_le _, rfl, hroom, hB, hG, fun j hj => absurd hj (by omega)⟩
  case round =>
    obtain ⟨k, hk, rfl, hrm, hBr, hGr, hat⟩ := hrel
    have HA : Hid (∀ j, j < k → wr.cell? ⟨w.heap.size, j, none⟩ = some (.int .i32 (idx j))) := hat
    have HRM : Hid (Room wr w.heap.size m) := hrm
    by_cases hlt : k < m
    · have q := (hBr.cell (p := ⟨br, offr + k, none⟩) hrw).trans (HRW.out k hlt)
      have qb := HRB.out k
      have qi := HID.out k
      obtain ⟨v0, c0⟩ := hrm.cell k hlt
      have f0 := hrm.free k
      clear hat hrm
      go_wp2
      go_roundw
      case rel => exact ⟨k + 1, by omega, by go_num, HRM.out.set _ _, hBr.setCell (Nat.le_refl _) _, by simpa [World.setCell] using hGr, int_room HRM.out hlt HA.out⟩
      case measure => simp [intOf]; omega
    · have hkm : k = m := by omega
      subst hkm
      clear hat hrm
      go_wp2_with fail
      have ho2 : OpsAt wr b off n K T S := ⟨fun i h => (hBr.cell (p := ⟨b, _, none⟩) hbw).trans (HO.out.k i h), fun i h => (hBr.cell (p := ⟨b, _, none⟩) hbw).trans (HO.out.t i h), fun i h => (hBr.cell (p := ⟨b, _, none⟩) hbw).trans (HO.out.s i h)⟩
      refine (opsAt_any b off n c K T S w.heap.size k k idx _ hn hm (fun j _ => HID.out j) ho2 HA.out (by omega) hGr).mono ?_
      rintro e w3 ⟨rfl, hB3, hG3, hat3⟩
      have HAT : Hid (∀ j, j < k → AtCell w3 wr.heap.size j (K (idx j)) (T (idx j)) (S (idx j)) (idx j + 1)) := hat3
      have HB3 : Below w.heap.size w w3 := hBr.trans (hB3.mono (by omega))
      clear hat3 ho2
      have hq := eql_nil
      go_wp2_with fail
      go_loopw [9] (fun i wx => ∃ (q nq : Nat), q ≤ k ∧ i = .int .i64 q ∧ wx = w3.drewN nq) (fun i _ => k - (intOf i).toNat)
      case atStart => exact ⟨0, 0, Nat.zero_le _, rfl, rfl⟩
      case round =>
        obtain ⟨q, nq, hqk, rfl, rfl⟩ := hrel
        by_cases hlt2 : q < k
        · have x0 := (HAT.out q hlt2).c0
          have x1 := (HAT.out q hlt2).c1
          have x2 := (HAT.out q hlt2).c2
          have x3 := (HAT.out q hlt2).c3
          have hiq := HID.out q
          have hbq := HRB.out q
          have y0 := (HB3.cell (p := ⟨b, off + idx q * 3, none⟩) hbw).trans (HO.out.k _ hiq)
          have y1 := (HB3.cell (p := ⟨b, off + idx q * 3 + 1, none⟩) hbw).trans (HO.out.t _ hiq)
          have y2 := (HB3.cell (p := ⟨b, off + idx q * 3 + 2, none⟩) hbw).trans (HO.out.s _ hiq)
          have z0 := (HB3.cell (p := ⟨br, offr + q, none⟩) hrw).trans (HRW.out q hlt2)
          go_wp2_with fail
          go_quiet (fail)
          go_wp2
          go_roundw
          case rel => exact ⟨q + 1, _, by omega, by go_num, rfl⟩
          case measure => simp [intOf]; omega
        · go_wp2
          go_ret
          exact ⟨rfl, HB3.trans ⟨rfl, rfl, rfl, Nat.le_refl _, fun _ _ => rfl⟩⟩

set_option maxHeartbeats 400000 in
/-- Operations, and no index. -/
theorem picks_zero (ao ar : Option Addr) (n c cr : Nat) (w : World) (hn : n ≤ 1024) (hn0 : 0 < n) :
    Calls Yba.prog 3 #[.slice ao n c, .slice ar 0 cr] w fun e w' => e = .returned (.bool true) ∧ Below w.heap.size w w' := by
  obtain ⟨i0, hi, hz0, hz1, hz2⟩ := info_parts info21
  have hne : ((n : Int) == 0) = false := by simp; omega
  have hq := eql_nil
  go_enter Yba.func3, Yba.ntmps3
  go_wp2_with (first | (refine wpList_make_full _ rfl (.tmp 32) (.tmp 32) 26 rfl w.heap.size 21 i0 _ 1 Yba.underlying26 hi hz0 hz1 _ _ _ _ 0 rfl rfl rfl rfl ?c1 ?c2 (Nat.le_refl _) ?_))
  case c1 => omega
  case c2 => unfold maxLen; omega
  intro w1 hown hgrow
  have hB : Below w.heap.size w w1 := (Below.refl _ _).grown hgrow (Nat.le_refl _) (by intro k h; cases h)
  clear hown hgrow
  go_wp2_with fail
  refine wp_loop_rounds 1 ?_
  rw [rounds_succ]
  go_wp2_with fail
  refine (opsAt_none ao _ n c _ _).mono ?_
  rintro e w2 ⟨rfl, hB2, _⟩
  have hs := hB.size
  have hB' : Below w.heap.size w w2 := hB.trans (hB2.mono hs)
  go_wp2_with fail
  refine wp_loop_rounds 1 ?_
  rw [rounds_succ]
  go_wp2
  go_ret
  exact ⟨rfl, hB'⟩

set_option maxHeartbeats 400000 in
/-- No operation. -/
theorem picks_none (ao ar : Option Addr) (c m cr : Nat) (w : World) (hm : m ≤ 1024) :
    Calls Yba.prog 3 #[.slice ao 0 c, .slice ar m cr] w fun e w' => e = .returned (.bool true) ∧ Below w.heap.size w w' := by
  have hq := neq_nil
  go_enter Yba.func3, Yba.ntmps3
  go_wp2_with fail
  refine (opsAt_none ao none 0 c 0 _).mono ?_
  rintro e w2 ⟨rfl, hB2, _⟩
  go_wp2
  go_ret
  exact ⟨rfl, hB2⟩

theorem picks_long (ao ar : Option Addr) (n c m cr : Nat) (w : World) (h : 1024 < n ∨ 1024 < m) :
    Calls Yba.prog 3 #[.slice ao n c, .slice ar m cr] w fun e w' => e = .returned (.bool true) ∧ Below w.heap.size w w' := by
  by_cases h1 : 1024 < n
  · have h1' : (1024 : Int) < (n : Int) := by omega
    go_enter Yba.func3, Yba.ntmps3
    go_wp2
    go_ret
    exact ⟨rfl, Below.refl _ _⟩
  · have h1' : ¬ (1024 : Int) < (n : Int) := by omega
    have h2' : (1024 : Int) < (m : Int) := by omega
    go_enter Yba.func3, Yba.ntmps3
    go_wp2
    go_ret
    exact ⟨rfl, Below.refl _ _⟩
end Go.Proofs.Ybulkdxs
