/-
  THE WALK OF 'transactionEnds'.
-/
import Derived.Test.YbulkdxsAt
import Derived.Test.YbulkdxsEndsPlain
namespace Go.Proofs.Ybulkdxs
open Go.RowKit

theorem info39 : (Yba.prog.info? 39).map (fun i => (i.zero, i.size, i.bytes)) = some (some (.agg #[.int .i32 0, .int .u8 0]), 2, 8) := by kernel_rfl

/-- The ends as they lie in block G, after k operations. -/
structure EndsAt (w : World) (G nn : Nat) (kd nd : Nat → Nat) (N k : Nat) : Prop where
  at_ : ∀ v, v < nn → w.cell? ⟨G, v * 2, none⟩ = some (.int .i32 (st kd nd N v k).1)
  kind : ∀ v, v < nn → w.cell? ⟨G, v * 2 + 1, none⟩ = some (.int .u8 (st kd nd N v k).2)

theorem Room.alloc {w : World} {G N : Nat} (h : Room w G N) (hG : G < w.heap.size) (o : Obj) : Room (w.alloc o) G N :=
  ⟨fun q hq => by
    obtain ⟨v, hv⟩ := h.cell q hq
    exact ⟨v, (World.cell?_alloc_past _ _ _ (by exact hG)).trans hv⟩, fun q => (World.frozen?_alloc_past _ _ _ (by exact hG)).trans (h.free q)⟩
theorem EndsAt.alloc {w : World} {G nn : Nat} {kd nd : Nat → Nat} {N k : Nat} (h : EndsAt w G nn kd nd N k) (hG : G < w.heap.size) (o : Obj) : EndsAt (w.alloc o) G nn kd nd N k :=
  ⟨fun v hv => (World.cell?_alloc_past _ _ _ (by exact hG)).trans (h.at_ v hv), fun v hv => (World.cell?_alloc_past _ _ _ (by exact hG)).trans (h.kind v hv)⟩
theorem EndsAt.miss {w : World} {G nn : Nat} {kd nd : Nat → Nat} {N k : Nat} (h : EndsAt w G nn kd nd N k) (hm : ∀ v, ¬ (nd k = v ∧ (kd k = 3 ∨ kd k = 4) ∧ (st kd nd N v k).2 = 0)) : EndsAt w G nn kd nd N (k + 1) :=
  ⟨fun v hv => by rw [st_miss (hm v)]; exact h.at_ v hv, fun v hv => by rw [st_miss (hm v)]; exact h.kind v hv⟩
theorem EndsAt.hit {w : World} {G nn : Nat} {kd nd : Nat → Nat} {N k : Nat} (h : EndsAt w G nn kd nd N k) (hn : nd k < nn) (h2 : kd k = 3 ∨ kd k = 4) (h3 : (st kd nd N (nd k) k).2 = 0) (z : Int) (hz : z = kd k) :
    EndsAt ((w.setCell ⟨G, nd k * 2, none⟩ (.int .i32 k)).setCell ⟨G, nd k * 2 + 1, none⟩ (.int .u8 z)) G nn kd nd N (k + 1) := by
  subst hz
  refine ⟨fun v hv => ?_, fun v hv => ?_⟩
  · refine (World.cell?_setCell_other _ _ _ _ (by intro he; injection he with _ e2; omega)).trans ?_
    by_cases hvk : v = nd k
    · subst hvk
      rw [st_hit rfl h2 h3]
      exact World.cell?_setCell_same _ _ _ (h.at_ _ hn)
    · rw [st_miss (fun c => hvk c.1.symm)]
      exact (World.cell?_setCell_other _ _ _ _ (by intro he; injection he with _ e2; omega)).trans (h.at_ v hv)
  · by_cases hvk : v = nd k
    · subst hvk
      rw [st_hit rfl h2 h3]
      exact World.cell?_setCell_same _ _ _ ((World.cell?_setCell_other _ _ _ _ (by intro he; injection he with _ e2; omega)).trans (h.kind _ hn))
    · rw [st_miss (fun c => hvk c.1.symm)]
      exact (World.cell?_setCell_other _ _ _ _ (by intro he; injection he with _ e2; omega)).trans ((World.cell?_setCell_other _ _ _ _ (by intro he; injection he with _ e2; omega)).trans (h.kind v hv))

theorem made2 (z0 z1 : Value) (n v : Nat) (hv : v < n) : (madeCells #[z0, z1] (n * 2)).toList[v * 2 + 1]? = some z1 := by
  have h : v * 2 + 1 < (madeCells #[z0, z1] (n * 2)).size := by rw [size_madeCells]; omega
  have e : (v * 2 + 1) % 2 = 1 := by omega
  rw [Array.getElem?_toList, Array.getElem?_eq_getElem h]
  simp [madeCells, e]

set_option maxHeartbeats 800000 in
theorem ends_any (B0 B1 N nn : Nat) (kd nd : Nat → Nat) (w : World) (hN : N ≤ 1024) (hnn : nn ≤ 8) (hkd : ∀ i, kd i < 12) (hnd : ∀ i, i < N → nd i < nn)
    (ho : OpsAt w B0 0 N (fun i => (kd i : Int)) (fun _ => 1) (fun _ => ⟨#[]⟩)) (hnode : ∀ i, i < N → w.cell? ⟨B1, i, none⟩ = some (.int .i32 (nd i))) (hb0 : B0 < w.heap.size) (hb1 : B1 < w.heap.size) :
    Calls Yba.prog 7 #[.slice (some ⟨B0, 0, none⟩) N N, .slice (some ⟨B1, 0, none⟩) N N, .int .i64 nn] w fun e w' => e = .returned (.slice (some ⟨w.heap.size, 0, none⟩) nn nn) ∧ Below w.heap.size w w' ∧ w.heap.size < w'.heap.size ∧ EndsAt w' w.heap.size nn kd nd N N := by
  obtain ⟨i0, hi, hz0, hz1, hz2⟩ := info_parts info39
  have HO : Hid (OpsAt w B0 0 N (fun i => (kd i : Int)) (fun _ => 1) (fun _ => ⟨#[]⟩)) := ho
  have HN : Hid (∀ i, i < N → w.cell? ⟨B1, i, none⟩ = some (.int .i32 (nd i))) := hnode
  have HD : Hid (∀ i, i < N → nd i < nn) := hnd
  have HK : Hid (∀ i, kd i < 12) := hkd
  clear ho hnode hnd hkd
  go_enter Yba.func7, Yba.ntmps7
  go_wp2_with (first | (refine wpList_make_full _ rfl (.tmp 12) (.tmp 12) 36 rfl w.heap.size 39 i0 _ 2 Yba.underlying36 hi hz0 hz1 _ _ _ _ nn rfl rfl rfl rfl ?c1 ?c2 (Nat.le_refl _) ?_))
  case c1 => rw [hz2]; omega
  case c2 => unfold maxLen; omega
  intro w1 hown hgrow
  have hroom := Room.of_own hown
  have hzero : ∀ v, v < nn → w1.cell? ⟨w.heap.size, v * 2 + 1, none⟩ = some (.int .u8 0) := fun v hv => by
    rw [hown.cellAt _ (by omega)]
    exact made2 _ _ nn v hv
  have HZ : Hid (∀ v, v < nn → w1.cell? ⟨w.heap.size, v * 2 + 1, none⟩ = some (.int .u8 0)) := hzero
  have hB : Below w.heap.size w w1 := (Below.refl _ _).grown hgrow (Nat.le_refl _) (by intro k h; cases h)
  have hG : w.heap.size < w1.heap.size := World.block_lt_of_own hown
  clear hown hgrow hzero
  go_wp2
  go_loopw [16] (fun i wr => ∃ k : Nat, k ≤ nn ∧ i = .int .i64 k ∧ Room wr w.heap.size (nn * 2) ∧ Below w.heap.size w wr ∧ w.heap.size < wr.heap.size ∧ (∀ v, v < nn → wr.cell? ⟨w.heap.size, v * 2 + 1, none⟩ = some (.int .u8 0)) ∧ ∀ v, v < k → wr.cell? ⟨w.heap.size, v * 2, none⟩ = some (.int .i32 N)) (fun i _ => nn - (intOf i).toNat)
  case atStart => exact ⟨0, Nat.zero_le _, rfl, hroom, hB, hG, HZ.out, fun j hj => absurd hj (by omega)⟩
  case round =>
    obtain ⟨k, hk, rfl, hrm, hBr, hGr, hz, hat⟩ := hrel
    have HRM : Hid (Room wr w.heap.size (nn * 2)) := hrm
    have HZR : Hid (∀ v, v < nn → wr.cell? ⟨w.heap.size, v * 2 + 1, none⟩ = some (.int .u8 0)) := hz
    have HA : Hid (∀ v, v < k → wr.cell? ⟨w.heap.size, v * 2, none⟩ = some (.int .i32 N)) := hat
    by_cases hlt : k < nn
    · obtain ⟨v0, c0⟩ := hrm.cell (k * 2) (by omega)
      have f0 := hrm.free (k * 2)
      clear hrm hz hat
      go_wp2
      go_roundw
      case rel =>
        refine ⟨k + 1, by omega, by go_num, HRM.out.set _ _, hBr.setCell (Nat.le_refl _) _, by simpa [World.setCell] using hGr, fun v hv => ?_, fun v hv => ?_⟩
        · exact (World.cell?_setCell_other _ _ _ _ (by intro he; injection he with _ e2; omega)).trans (HZR.out v hv)
        · by_cases hvk : v = k
          · subst hvk
            exact World.cell?_setCell_same _ _ _ c0
          · exact (World.cell?_setCell_other _ _ _ _ (by intro he; injection he with _ e2; omega)).trans (HA.out v (by omega))
      case measure => simp [intOf]; omega
    · have hkm : k = nn := by omega
      subst hkm
      clear hrm hz hat
      go_wp2
      go_loopw [29] (fun i wx => ∃ q : Nat, q ≤ N ∧ i = .int .i64 q ∧ Room wx w.heap.size (k * 2) ∧ Below w.heap.size w wx ∧ w.heap.size < wx.heap.size ∧ EndsAt wx w.heap.size k kd nd N q) (fun i _ => N - (intOf i).toNat)
      case atStart => exact ⟨0, Nat.zero_le _, rfl, HRM.out, hBr, hGr, ⟨HA.out, HZR.out⟩⟩
      case round =>
        obtain ⟨q, hq, rfl, hrx, hBx, hGx, hex⟩ := hrel
        have HRX : Hid (Room wr w.heap.size (k * 2)) := hrx
        have HEX : Hid (EndsAt wr w.heap.size k kd nd N q) := hex
        by_cases hlq : q < N
        · have y0 := (hBx.cell (p := ⟨B0, 0 + q * 3, none⟩) hb0).trans (HO.out.k _ hlq)
          have y1 := (hBx.cell (p := ⟨B0, 0 + q * 3 + 1, none⟩) hb0).trans (HO.out.t _ hlq)
          have y2 := (hBx.cell (p := ⟨B0, 0 + q * 3 + 2, none⟩) hb0).trans (HO.out.s _ hlq)
          simp only [Nat.zero_add] at y0 y1 y2
          have y3 := (hBx.cell (p := ⟨B1, q, none⟩) hb1).trans (HN.out q hlq)
          have hdq := HD.out q hlq
          have hkq := HK.out q
          have e0 := hex.at_ (nd q) hdq
          have e1 := hex.kind (nd q) hdq
          have f0 := hrx.free (nd q * 2)
          have f1 := hrx.free (nd q * 2 + 1)
          have hb0' : B0 < wr.heap.size := by omega
          have hb1' : B1 < wr.heap.size := by omega
          clear hrx hex
          by_cases hE : kd q = 3 ∨ kd q = 4
          · by_cases hK0 : (st kd nd N (nd q) q).2 = 0
            · rcases hE with hE | hE
              · go_wp2
                go_roundw
                case rel => exact ⟨q + 1, by omega, by go_num, ((HRX.out.set _ _).set _ _).alloc (by simpa [World.setCell] using hGx) _, ((hBx.setCell (Nat.le_refl _) _).setCell (Nat.le_refl _) _).alloc (by simp [World.setCell]; omega) _, by simp [World.setCell]; omega, (HEX.out.hit hdq (by omega) hK0 _ (by omega)).alloc (by simpa [World.setCell] using hGx) _⟩
                case measure => simp [intOf]; omega
              · go_wp2
                go_roundw
                case rel => exact ⟨q + 1, by omega, by go_num, ((HRX.out.set _ _).set _ _).alloc (by simpa [World.setCell] using hGx) _, ((hBx.setCell (Nat.le_refl _) _).setCell (Nat.le_refl _) _).alloc (by simp [World.setCell]; omega) _, by simp [World.setCell]; omega, (HEX.out.hit hdq (by omega) hK0 _ (by omega)).alloc (by simpa [World.setCell] using hGx) _⟩
                case measure => simp [intOf]; omega
            · have hK1 : (((st kd nd N (nd q) q).2 : Int) == 0) = false := by simp; omega
              rcases hE with hE | hE
              · go_wp2
                go_roundw
                case rel => exact ⟨q + 1, by omega, by go_num, HRX.out.alloc hGx _, hBx.alloc (by omega) _, by simp; omega, (HEX.out.miss (fun v c => by obtain ⟨rfl, _, c3⟩ := c; exact hK0 c3)).alloc hGx _⟩
                case measure => simp [intOf]; omega
              · go_wp2
                go_roundw
                case rel => exact ⟨q + 1, by omega, by go_num, HRX.out.alloc hGx _, hBx.alloc (by omega) _, by simp; omega, (HEX.out.miss (fun v c => by obtain ⟨rfl, _, c3⟩ := c; exact hK0 c3)).alloc hGx _⟩
                case measure => simp [intOf]; omega
          · have h3 : ((kd q : Int) == 3) = false := by simp; omega
            have h4 : ((kd q : Int) == 4) = false := by simp; omega
            go_wp2
            go_roundw
            case rel => exact ⟨q + 1, by omega, by go_num, HRX.out.alloc hGx _, hBx.alloc (by omega) _, by simp; omega, (HEX.out.miss (fun v c => hE c.2.1)).alloc hGx _⟩
            case measure => simp [intOf]; omega
        · have hqN : q = N := by omega
          subst hqN
          go_wp2
          go_ret
          exact ⟨rfl, hBx, hGx, hex⟩
end Go.Proofs.Ybulkdxs
