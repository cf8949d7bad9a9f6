/-
  THE WALK OF 'LawS0239CFirstEnd'.
-/
import Derived.Test.YbulkdxsEnds
namespace Go.Proofs.Ybulkdxs
open Go.RowKit

theorem info30 : (Yba.prog.info? 30).map (fun i => (i.zero, i.size, i.bytes)) = some (some (.agg #[.int .u8 0, .int .i64 0, .string ⟨#[]⟩]), 3, 32) := by kernel_rfl

/-- What is known of a slice of bytes that came in. -/
def ByteRow (w : World) (a : Option Addr) (n : Nat) (z : Nat → Int) : Prop :=
  n = 0 ∨ ∃ b off, a = some ⟨b, off, none⟩ ∧ b < w.heap.size ∧ ∀ i, i < n → w.cell? ⟨b, off + i, none⟩ = some (.int .u8 (z i))

/-- What the first loop has laid, after k rounds. -/
structure Laid (w : World) (B0 B1 N : Nat) (kd nd : Nat → Nat) (k : Nat) : Prop where
  r0 : Room w B0 (N * 3)
  r1 : Room w B1 N
  ops : OpsAt w B0 0 k (fun i => (kd i : Int)) (fun _ => 1) (fun _ => ⟨#[]⟩)
  node : ∀ i, i < k → w.cell? ⟨B1, i, none⟩ = some (.int .i32 (nd i))

theorem other_off {w : World} {B B' o o' : Nat} {v : Value} (h : B ≠ B' ∨ o ≠ o') : (w.setCell ⟨B, o, none⟩ v).cell? ⟨B', o', none⟩ = w.cell? ⟨B', o', none⟩ :=
  World.cell?_setCell_other _ _ _ _ (by
    intro he
    injection he with e1 e2
    omega)

theorem Laid.step {w : World} {B0 B1 N : Nat} {kd nd : Nat → Nat} {k : Nat} (h : Laid w B0 B1 N kd nd k) (hne : B0 ≠ B1) (hk : k < N) (z : Int) (hz : z = nd k) :
    Laid ((((w.setCell ⟨B0, k * 3, none⟩ (.int .u8 (kd k))).setCell ⟨B0, k * 3 + 1, none⟩ (.int .i64 1)).setCell ⟨B0, k * 3 + 2, none⟩ (.string ⟨#[]⟩)).setCell ⟨B1, k, none⟩ (.int .i32 z)) B0 B1 N kd nd (k + 1) := by
  subst hz
  obtain ⟨v0, c0⟩ := h.r0.cell (k * 3) (by omega)
  obtain ⟨v1, c1⟩ := h.r0.cell (k * 3 + 1) (by omega)
  obtain ⟨v2, c2⟩ := h.r0.cell (k * 3 + 2) (by omega)
  obtain ⟨v3, c3⟩ := h.r1.cell k hk
  refine ⟨(((h.r0.set _ _).set _ _).set _ _).set _ _, (((h.r1.set _ _).set _ _).set _ _).set _ _, ⟨fun i hi => ?_, fun i hi => ?_, fun i hi => ?_⟩, fun i hi => ?_⟩
  · rw [other_off (.inl (Ne.symm hne)), other_off (.inr (by omega)), other_off (.inr (by omega))]
    by_cases hik : i = k
    · subst hik
      rw [Nat.zero_add]
      exact World.cell?_setCell_same _ _ _ c0
    · rw [other_off (.inr (by omega))]
      exact h.ops.k i (by omega)
  · rw [other_off (.inl (Ne.symm hne)), other_off (.inr (by omega))]
    by_cases hik : i = k
    · subst hik
      rw [Nat.zero_add]
      exact World.cell?_setCell_same _ _ _ ((other_off (.inr (by omega))).trans c1)
    · rw [other_off (.inr (by omega)), other_off (.inr (by omega))]
      exact h.ops.t i (by omega)
  · rw [other_off (.inl (Ne.symm hne))]
    by_cases hik : i = k
    · subst hik
      rw [Nat.zero_add]
      exact World.cell?_setCell_same _ _ _ ((other_off (.inr (by omega))).trans ((other_off (.inr (by omega))).trans c2))
    · rw [other_off (.inr (by omega)), other_off (.inr (by omega)), other_off (.inr (by omega))]
      exact h.ops.s i (by omega)
  · by_cases hik : i = k
    · subst hik
      exact World.cell?_setCell_same _ _ _ ((other_off (.inl hne)).trans ((other_off (.inl hne)).trans ((other_off (.inl hne)).trans c3)))
    · rw [other_off (.inr (by omega)), other_off (.inl hne), other_off (.inl hne), other_off (.inl hne)]
      exact h.node i (by omega)

set_option maxRecDepth 20000 in
set_option maxHeartbeats 1600000 in
theorem first_law (ak : Option Addr) (N ck : Nat) (zk : Nat → Int) (asl : Option Addr) (ls cs : Nat) (zs : Nat → Int) (a2 : Int) (nn : Nat) (kd nd : Nat → Nat) (w : World) (hN : N ≤ 1024)
    (hk : ByteRow w ak N zk) (hs : ByteRow w asl ls zs) (bk : ∀ i, 0 ≤ zk i ∧ zk i ≤ 255) (bs : ∀ i, 0 ≤ zs i ∧ zs i ≤ 255) (b2 : 0 ≤ a2) (b2' : a2 ≤ 255) (hnn : a2 % 8 + 1 = nn)
    (hkd : ∀ i, zk i % 12 = (kd i : Int)) (hkd' : ∀ i, kd i < 12) (hnd : ∀ i, i < ls → zs i % (nn : Int) = (nd i : Int)) (hnd0 : ∀ i, ¬ i < ls → nd i = 0) (hnd' : ∀ i, nd i < nn) (_hls : ls ≤ 9223372036854775807) :
    Calls Yba.prog 5 #[.slice ak N ck, .slice asl ls cs, .int .u8 a2] w fun e w' => e = .returned (.bool true) ∧ Below w.heap.size w w' := by
  obtain ⟨i0, hi, hz0, hz1, hz2⟩ := info_parts info30
  obtain ⟨j0, ji, jz0, jz1, jz2⟩ := info_parts info21
  have HKB : Hid (ByteRow w ak N zk) := hk
  have HSB : Hid (ByteRow w asl ls zs) := hs
  have BK : Hid (∀ i, 0 ≤ zk i ∧ zk i ≤ 255) := bk
  have BS : Hid (∀ i, 0 ≤ zs i ∧ zs i ≤ 255) := bs
  have HKD : Hid (∀ i, zk i % 12 = (kd i : Int)) := hkd
  have HKD' : Hid (∀ i, kd i < 12) := hkd'
  have HND : Hid (∀ i, i < ls → zs i % (nn : Int) = (nd i : Int)) := hnd
  have HND0 : Hid (∀ i, ¬ i < ls → nd i = 0) := hnd0
  have HND' : Hid (∀ i, nd i < nn) := hnd'
  have hn8 : nn ≤ 8 ∧ 1 ≤ nn := by omega
  obtain ⟨hn8, hn1⟩ := hn8
  clear hk hs bk bs hkd hkd' hnd hnd0 hnd'
  go_enter Yba.func5, Yba.ntmps5
  go_wp2_with (first | (refine wpList_make_full _ rfl (.tmp 26) (.tmp 26) 22 rfl w.heap.size 30 i0 _ 3 Yba.underlying22 hi hz0 hz1 _ _ _ _ N rfl rfl rfl rfl ?c1 ?c2 (Nat.le_refl _) ?_))
  case c1 => rw [hz2]; omega
  case c2 => unfold maxLen; omega
  intro w1 hown hgrow
  have hroom := Room.of_own hown
  have hB : Below w.heap.size w w1 := (Below.refl _ _).grown hgrow (Nat.le_refl _) (by intro k h; cases h)
  have hG : w.heap.size < w1.heap.size := World.block_lt_of_own hown
  clear hown hgrow
  go_wp2_with (first | (refine wpList_make_full _ rfl (.tmp 29) (.tmp 29) 26 rfl w1.heap.size 21 j0 _ 1 Yba.underlying26 ji jz0 jz1 _ _ _ _ N rfl rfl rfl rfl ?d1 ?d2 (Nat.le_refl _) ?_))
  case d1 => rw [jz2]; omega
  case d2 => unfold maxLen; omega
  intro w2 hown2 hgrow2
  have hroom2 : Room w2 w1.heap.size N := by have := Room.of_own hown2; simpa using this
  have hroom1 : Room w2 w.heap.size (N * 3) := ⟨fun o ho => by
    obtain ⟨v, hv⟩ := hroom.cell o ho
    exact ⟨v, hgrow2.cell hv (by simp)⟩, fun o => by
    rw [World.frozen?_of_block (w := w1) (hgrow2.block w.heap.size hG (by simp))]
    exact hroom.free o⟩
  have hB2 : Below w.heap.size w w2 := hB.grown hgrow2 (by omega) (by intro k h; cases h)
  have hG2 : w1.heap.size < w2.heap.size := World.block_lt_of_own hown2
  clear hown2 hgrow2 hroom
  go_wp2
  go_loopw [33] (fun i wr => ∃ k : Nat, k ≤ N ∧ i = .int .i64 k ∧ Laid wr w.heap.size w1.heap.size N kd nd k ∧ Below w.heap.size w wr ∧ w1.heap.size < wr.heap.size) (fun i _ => N - (intOf i).toNat)
  case atStart => exact ⟨0, Nat.zero_le _, rfl, ⟨hroom1, hroom2, ⟨fun i h => absurd h (by omega), fun i h => absurd h (by omega), fun i h => absurd h (by omega)⟩, fun i h => absurd h (by omega)⟩, hB2, hG2⟩
  case round =>
    obtain ⟨k, hkN, rfl, hlaid, hBr, hGr⟩ := hrel
    have HL : Hid (Laid wr w.heap.size w1.heap.size N kd nd k) := hlaid
    by_cases hlt : k < N
    · rcases HKB.out with h0 | ⟨b, off, rfl, hbw, hkc⟩
      · omega
      have q0 := (hBr.cell (p := ⟨b, off + k, none⟩) hbw).trans (hkc k hlt)
      have hkm := HKD.out k
      have hk12 := HKD'.out k
      obtain ⟨v0, c0⟩ := hlaid.r0.cell (k * 3) (by omega)
      obtain ⟨v1, c1⟩ := hlaid.r0.cell (k * 3 + 1) (by omega)
      obtain ⟨v2, c2⟩ := hlaid.r0.cell (k * 3 + 2) (by omega)
      obtain ⟨v3, c3⟩ := hlaid.r1.cell k hlt
      have f0 := hlaid.r0.free (k * 3)
      have f1 := hlaid.r0.free (k * 3 + 1)
      have f2 := hlaid.r0.free (k * 3 + 2)
      have f3 := hlaid.r1.free k
      have bk := BK.out k
      clear hlaid hkc
      by_cases hks : k < ls
      · rcases HSB.out with h0 | ⟨b', off', rfl, hbw', hsc⟩
        · omega
        have q1 := (hBr.cell (p := ⟨b', off' + k, none⟩) hbw').trans (hsc k hks)
        have hnm := HND.out k hks
        have hnl := HND'.out k
        have bs := BS.out k
        clear hsc
        go_wp2
        go_roundw
        case rel => exact ⟨k + 1, by omega, by go_num, HL.out.step (by omega) hlt _ rfl, (((hBr.setCell (Nat.le_refl _) _).setCell (Nat.le_refl _) _).setCell (Nat.le_refl _) _).setCell (by show w.heap.size ≤ w1.heap.size; omega) _, by simpa [World.setCell] using hGr⟩
        case measure => simp [intOf]; omega
      · have hn0 := HND0.out k hks
        go_wp2
        go_roundw
        case rel => exact ⟨k + 1, by omega, by go_num, HL.out.step (by omega) hlt _ (by omega), (((hBr.setCell (Nat.le_refl _) _).setCell (Nat.le_refl _) _).setCell (Nat.le_refl _) _).setCell (by show w.heap.size ≤ w1.heap.size; omega) _, by simpa [World.setCell] using hGr⟩
        case measure => simp [intOf]; omega
    · have hkm : k = N := by omega
      subst hkm
      clear hlaid
      go_wp2_with fail
      refine (ends_any w.heap.size w1.heap.size k nn kd nd _ hN hn8 HKD'.out (fun i _ => HND'.out i) HL.out.ops HL.out.node (by omega) hGr).mono ?_
      rintro e w3 ⟨rfl, hB3, hG3, hE⟩
      have HE : Hid (EndsAt w3 wr.heap.size nn kd nd k k) := hE
      have HO3 : Hid (OpsAt w3 w.heap.size 0 k (fun i => (kd i : Int)) (fun _ => 1) (fun _ => ⟨#[]⟩)) := ⟨fun i h => (hB3.cell (p := ⟨w.heap.size, _, none⟩) (by show w.heap.size < wr.heap.size; omega)).trans (HL.out.ops.k i h), fun i h => (hB3.cell (p := ⟨w.heap.size, _, none⟩) (by show w.heap.size < wr.heap.size; omega)).trans (HL.out.ops.t i h), fun i h => (hB3.cell (p := ⟨w.heap.size, _, none⟩) (by show w.heap.size < wr.heap.size; omega)).trans (HL.out.ops.s i h)⟩
      have HN3 : Hid (∀ i, i < k → w3.cell? ⟨w1.heap.size, i, none⟩ = some (.int .i32 (nd i))) := fun i h => (hB3.cell (p := ⟨w1.heap.size, _, none⟩) hGr).trans (HL.out.node i h)
      have hBf : Below w.heap.size w w3 := hBr.trans (hB3.mono (by omega))
      clear hE
      go_wp2
      go_loop [14] (fun i => ∃ v : Nat, v ≤ nn ∧ i = .int .i64 v) (fun i => nn - (intOf i).toNat)
      case atStart => exact ⟨0, Nat.zero_le _, rfl⟩
      case round =>
        obtain ⟨v, hv, rfl⟩ := hrel
        by_cases hvl : v < nn
        · have g0 := HE.out.at_ v hvl
          have g1 := HE.out.kind v hvl
          go_wp2
          go_loop [15, 16, 17] (fun a b i => ∃ q : Nat, q ≤ k ∧ i = .int .i64 q ∧ a = .int .i32 k ∧ b = .int .u8 0 ∧ (st kd nd k v q).2 = 0) (fun _ _ i => k - (intOf i).toNat)
          case atStart => exact ⟨0, Nat.zero_le _, rfl, rfl, rfl, rfl⟩
          case round =>
            obtain ⟨q, hq, rfl, rfl, rfl, hst⟩ := hrel
            have HST : Hid ((st kd nd k v q).2 = 0) := hst
            clear hst
            by_cases hql : q < k
            · have y0 := HO3.out.k q hql
              simp only [Nat.zero_add] at y0
              have y3 := HN3.out q hql
              by_cases hm : nd q = v ∧ (kd q = 3 ∨ kd q = 4)
              · obtain ⟨rfl, hm2⟩ := hm
                have hs := st_hit rfl hm2 HST.out
                have hs2 := st_stay' (k := q + 1) (kd := kd) (nd := nd) (N := k) (v := nd q) (by rw [hs]; show kd q ≠ 0; omega) (by omega)
                rw [hs2, hs] at g0 g1
                clear hs hs2
                rcases hm2 with hm2 | hm2
                · go_wp2
                  go_round
                  case rel => exact ⟨nd q + 1, by omega, by go_num⟩
                  case measure => simp [intOf]; omega
                · go_wp2
                  go_round
                  case rel => exact ⟨nd q + 1, by omega, by go_num⟩
                  case measure => simp [intOf]; omega
              · have hs : (st kd nd k v (q + 1)).2 = 0 := by
                  rw [st_miss (fun c => hm ⟨c.1, c.2.1⟩)]
                  exact HST.out
                have HS1 : Hid ((st kd nd k v (q + 1)).2 = 0) := hs
                clear hs
                by_cases hnv : nd q = v
                · have h3 : ((kd q : Int) == 3) = false := by simp; omega
                  have h4 : ((kd q : Int) == 4) = false := by simp; omega
                  clear hm
                  subst hnv
                  go_wp2
                  go_round
                  case rel => exact ⟨q + 1, by omega, by go_num, rfl, rfl, HS1.out⟩
                  case measure => simp [intOf]; omega
                · have hndq := HND'.out q
                  have hnv' : ((nd q : Int) == (v : Int)) = false := by simp; omega
                  clear hm hnv
                  go_wp2
                  go_round
                  case rel => exact ⟨q + 1, by omega, by go_num, rfl, rfl, HS1.out⟩
                  case measure => simp [intOf]; omega
            · have hqk : q = k := by omega
              subst hqk
              have hz := st_none HST.out
              rw [hz] at g0 g1
              clear hz
              go_wp2
              go_round
              case rel => exact ⟨v + 1, by omega, by go_num⟩
              case measure => simp [intOf]; omega
        · go_wp2
          go_ret
          exact ⟨rfl, hBf⟩
end Go.Proofs.Ybulkdxs
