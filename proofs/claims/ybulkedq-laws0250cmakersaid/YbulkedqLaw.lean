/-
  THE LAW's WALK.
-/
import Derived.Test.YbulkedqFill
import Derived.WalkSmall
namespace Go.Proofs.Ybulkedq
open Go.RowKit

theorem info29 : (Yba.prog.info? 29).map (fun i => (i.zero, i.size, i.bytes)) = some (some (.agg #[.int .i64 0, .int .i64 0, .bool false]), 3, 24) := by kernel_rfl
theorem info36 : (Yba.prog.info? 36).map (fun i => (i.zero, i.size, i.bytes)) = some (some (.agg #[.int .i64 0, .int .i64 0, .int .i64 0, .int .u64 0, .bool false, .bool false]), 6, 40) := by kernel_rfl

theorem new_at (w : World) (cs : List Value) (t : TypeId) (g : Nat) (hg : g = w.heap.size) : ∀ j u, cs[j]? = some u → (w.alloc (.cells cs.toArray t)).cell? ((⟨g, 0, none⟩ : Addr).add j) = some u := by
  intro j u hj
  rw [Addr.add_lit, World.cell?_alloc_at _ _ _ _ hg]
  simpa using hj
theorem spare_at {wr wx : World} {G tot o n : Nat} (hr : Room wr G tot) (hx : Below wr.heap.size wr wx) (hG : G < wr.heap.size) (ho : o + n ≤ tot) : ∀ j, j < n → (wx.cell? ⟨G, o + j, none⟩).isSome = true ∧ wx.frozen? ⟨G, o + j, none⟩ = false := fun j hj =>
  ⟨by rw [hx.cell (p := ⟨G, o + j, none⟩) hG]; exact hr.cell _ (by omega), by rw [hx.frozen (p := ⟨G, o + j, none⟩) hG]; exact hr.free _⟩
theorem one_way (e t s n : Int) : ∀ u ∈ ([.int .i64 e, .int .i64 t, .int .i64 s, .int .u64 n, .bool false, .bool false] : List Value), u.oneCell' = true := by
  intro u hu
  simp only [List.mem_cons, List.not_mem_nil, or_false] at hu
  rcases hu with rfl | rfl | rfl | rfl | rfl | rfl <;> rfl
theorem below_two (w : World) (o o' : Obj) : Below w.heap.size w ((w.alloc o).alloc o') := ((Below.refl _ _).alloc (Nat.le_refl _) _).alloc (by simp) _

theorem cut_at {g pos : ByteArray} {st en a b : Nat} (hg : g = pos.extract st en) (h1 : a < g.size) (h2 : b < pos.size) (hb : b = st + a) : g[a] = pos[b] := by
  subst hg
  subst hb
  exact ByteArray.getElem_extract h1

/-- A row of pairs of numbers. -/
structure Pairs (w : World) (b off n : Nat) (kd : IntKind) (X Y : Nat → Int) : Prop where
  x : ∀ i, i < n → w.cell? ⟨b, off + i * 2, none⟩ = some (.int kd (X i))
  y : ∀ i, i < n → w.cell? ⟨b, off + i * 2 + 1, none⟩ = some (.int kd (Y i))

theorem mod_nat (x : Int) (n : Nat) : ∃ r : Nat, x % ((n : Int) + 1) = (r : Int) ∧ r ≤ n := by
  have h0 := Int.emod_nonneg x (b := (n : Int) + 1) (by omega)
  have h1 := Int.emod_lt_of_pos x (b := (n : Int) + 1) (by omega)
  exact ⟨(x % ((n : Int) + 1)).toNat, by omega, by omega⟩

set_option maxRecDepth 10000 in
set_option maxHeartbeats 800000 in
theorem law_walk (pos : ByteArray) (m c1 k c2 : Nat) (full : Bool) (oa ob : Option Addr) (b1 off1 b2 off2 : Nat) (E T : Nat → Int) (S D : Nat → Int) (w : World) (hp : pos.size ≤ 1024) (hm : m ≤ 1024) (hk : k ≤ 1024)
    (hw : Pairs w b1 off1 m .i64 E T) (hi : Pairs w b2 off2 k .u16 S D) (hT : ∀ i, -9223372036854775808 ≤ T i ∧ T i ≤ 9223372036854775807) (hS : ∀ i, (0 ≤ S i ∧ S i ≤ 65535) ∧ 0 ≤ D i ∧ D i ≤ 65535)
    (ha : 0 < m → oa = some ⟨b1, off1, none⟩ ∧ b1 < w.heap.size) (hb : 0 < k → ob = some ⟨b2, off2, none⟩ ∧ b2 < w.heap.size) :
    Calls Yba.prog 3 #[.string pos, .slice oa m c1, .slice ob k c2, .bool full] w fun e w' => e = .returned (.bool true) ∧ Below w.heap.size w w' := by
  obtain ⟨i0, hi0, hz0, hz1, hz2⟩ := info_parts info29
  obtain ⟨j0, hj0, hy0, hy1, hy2⟩ := info_parts info36
  have HW : Hid (Pairs w b1 off1 m .i64 E T) := hw
  have HI : Hid (Pairs w b2 off2 k .u16 S D) := hi
  have HT : Hid (∀ i, -9223372036854775808 ≤ T i ∧ T i ≤ 9223372036854775807) := hT
  have HS : Hid (∀ i, (0 ≤ S i ∧ S i ≤ 65535) ∧ 0 ≤ D i ∧ D i ≤ 65535) := hS
  have HA : Hid (0 < m → oa = some ⟨b1, off1, none⟩ ∧ b1 < w.heap.size) := ha
  have HB : Hid (0 < k → ob = some ⟨b2, off2, none⟩ ∧ b2 < w.heap.size) := hb
  clear hw hi hT hS ha hb
  have g1 : ¬ (1024 : Int) < (pos.size : Int) := by omega
  have g2 : ¬ (1024 : Int) < (m : Int) := by omega
  have g3 : ¬ (1024 : Int) < (k : Int) := by omega
  go_enter Yba.func3, Yba.ntmps3
  go_wp2_with (first | (refine wpList_make_own _ rfl (.const (.int .i64 0)) (.tmp 40) 24 rfl w.heap.size 29 i0 _ 3 Yba.underlying24 hi0 hz0 hz1 _ _ _ k rfl rfl rfl ?c1 ?c2 (Nat.le_refl _) ?_))
  case c1 => omega
  case c2 => unfold maxLen; omega
  intro w1 hown hgrow
  have hroom : Room w1 w.heap.size (k * 3) := room_of_made hown
  have hB1 : Below w.heap.size w w1 := (Below.refl _ _).grown hgrow (Nat.le_refl _) (by intro k h; cases h)
  have hG1 : w.heap.size < w1.heap.size := (hown.lt _ rfl).2
  clear hown hgrow
  go_wp2
  go_loopw [9, 44] (fun v i wr => ∃ j : Nat, j ≤ k ∧ i = .int .i64 j ∧ v = .slice (some ⟨w.heap.size, 0, none⟩) j k ∧ Room wr w.heap.size (k * 3) ∧ Below w.heap.size w wr ∧ w.heap.size < wr.heap.size ∧ ∀ q, q < j → NamedAt wr w.heap.size pos.size q) (fun _ i _ => k - (intOf i).toNat)
  case atStart => exact ⟨0, Nat.zero_le _, rfl, rfl, hroom, hB1, hG1, fun q hq => absurd hq (by omega)⟩
  case round =>
    clear hroom hB1 hG1
    obtain ⟨j, hj, rfl, rfl, hrm, hBr, hGr, hat⟩ := hrel
    have HRM : Hid (Room wr w.heap.size (k * 3)) := hrm
    have HAT : Hid (∀ q, q < j → NamedAt wr w.heap.size pos.size q) := hat
    clear hrm hat
    by_cases hlt : j < k
    · obtain ⟨rfl, hb2⟩ := HB.out (by omega)
      have q0 := (hBr.cell (p := ⟨b2, off2 + j * 2, none⟩) hb2).trans (HI.out.x j hlt)
      have q1 := (hBr.cell (p := ⟨b2, off2 + j * 2 + 1, none⟩) hb2).trans (HI.out.y j hlt)
      obtain ⟨⟨s0, s1⟩, d0, d1⟩ := HS.out j
      obtain ⟨st, hst, hstL⟩ := mod_nat (S j) pos.size
      obtain ⟨d, hd, hdL⟩ := mod_nat (D j) (pos.size - st)
      have hd' : D j % ((pos.size : Int) - st + 1) = (d : Int) := by rw [← hd]; congr 2; omega
      have hbne : ¬ b2 = wr.heap.size := by omega
      obtain ⟨en, hen, hse⟩ : ∃ en : Nat, (st : Int) + (d : Int) = (en : Int) ∧ st ≤ en ∧ en ≤ pos.size := ⟨st + d, by simp, by omega, by omega⟩
      have HSE : Hid (st ≤ en ∧ en ≤ pos.size) := hse
      clear hse
      go_wp2_with (first | (refine wpList_append_room _ rfl (.tmp 66) (.tmp 70) 24 rfl 29 i0 3 Yba.underlying24 hi0 hz1 w.heap.size j k rfl ⟨wr.heap.size + 1, 0, none⟩ 1 [.int .i64 st, .int .i64 en, .bool false] rfl rfl ?n0 ?n1 (Nat.succ_le_of_lt hlt) ?n2 ?_))
      case n1 => exact ⟨rfl, rfl, rfl⟩
      case n2 => exact fun q hq => ⟨HRM.out.cell _ (by omega), HRM.out.free _⟩
      go_roundw
      case rel =>
        have hx : Below wr.heap.size wr ((wr.alloc (.cells #[.int .u16 (S j), .int .u16 (D j)] 27)).alloc (.cells #[.int .i64 st, .int .i64 en, .bool false] 29)) := ((Below.refl _ _).alloc (Nat.le_refl _) _).alloc (by simp) _
        have B := named_step st en HRM.out hx hGr hlt HAT.out HSE.out.1 HSE.out.2
        exact ⟨j + 1, by omega, by go_num, rfl, B.1, hBr.trans B.2.1, Nat.lt_of_lt_of_le hGr (B.2.1).size, B.2.2⟩
      case measure => simp [intOf]; omega
    · obtain rfl : j = k := by omega
      obtain ⟨wn, hwn⟩ : ∃ wn, wn = wr := ⟨_, rfl⟩
      subst hwn
      clear HRM HB HI HS
      go_wp2_with (first | (refine wpList_make_own _ rfl (.const (.int .i64 0)) (.tmp 74) 30 rfl wn.heap.size 36 j0 _ 6 Yba.underlying30 hj0 hy0 hy1 _ _ _ m rfl rfl rfl ?e1 ?e2 (Nat.le_refl _) ?_))
      case e1 => rw [hy2]; omega
      case e2 => unfold maxLen; omega
      intro w2 hown hgrow
      have hroom : Room w2 wn.heap.size (m * 6) := room_of_made hown
      have hB2 : Below wn.heap.size wn w2 := (Below.refl _ _).grown hgrow (Nat.le_refl _) (by intro k h; cases h)
      have hG2 : wn.heap.size < w2.heap.size := (hown.lt _ rfl).2
      clear hown hgrow
      go_wp2
      go_loopw [14, 78] (fun v i wr => ∃ p : Nat, p ≤ m ∧ i = .int .i64 p ∧ v = .slice (some ⟨wn.heap.size, 0, none⟩) p m ∧ Room wr wn.heap.size (m * 6) ∧ Below wn.heap.size wn wr ∧ wn.heap.size < wr.heap.size ∧ ∀ q, q < p → WayAt wr wn.heap.size j q) (fun _ i _ => m - (intOf i).toNat)
      case atStart => exact ⟨0, Nat.zero_le _, rfl, rfl, hroom, hB2, hG2, fun q hq => absurd hq (by omega)⟩
      case round =>
        clear hroom hB2 hG2
        obtain ⟨p, hp', rfl, rfl, hrm, hBq, hGq, hwy⟩ := hrel
        have HRM : Hid (Room wr wn.heap.size (m * 6)) := hrm
        have HWY : Hid (∀ q, q < p → WayAt wr wn.heap.size j q) := hwy
        clear hrm hwy
        by_cases hlt : p < m
        · obtain ⟨rfl, hb1⟩ := HA.out (by omega)
          have hb1n : b1 < wn.heap.size := by omega
          have q0 := (hBq.cell (p := ⟨b1, off1 + p * 2, none⟩) hb1n).trans ((hBr.cell (p := ⟨b1, off1 + p * 2, none⟩) hb1).trans (HW.out.x p hlt))
          have q1 := (hBq.cell (p := ⟨b1, off1 + p * 2 + 1, none⟩) hb1n).trans ((hBr.cell (p := ⟨b1, off1 + p * 2 + 1, none⟩) hb1).trans (HW.out.y p hlt))
          have tb := HT.out p
          have hbne : ¬ b1 = wr.heap.size := by omega
          have hm1 : (1 : Int) ≤ (m : Int) := by omega
          by_cases hlast : (m : Int) - 1 = (p : Int)
          · cases full
            · go_wp2_with fail
              refine (slot_any (T p) j _ tb.1 tb.2 hk).mono ?_
              rintro e wq ⟨rfl, rfl⟩
              go_wp2_with (first | (refine wpList_append_room _ rfl (.tmp 95) (.tmp 106) 30 rfl 36 j0 6 Yba.underlying30 hj0 hy1 wn.heap.size p m rfl ⟨wr.heap.size + 1, 0, none⟩ 1 [.int .i64 (E p), .int .i64 (E p), .int .i64 (slotOf (T p) j), .int .u64 p, .bool false, .bool false] rfl rfl ?n0a ?n1a (Nat.succ_le_of_lt hlt) ?n2a ?_))
              case n0a => exact new_at _ _ _ _ (by simp)
              case n1a => exact one_way _ _ _ _
              case n2a => exact spare_at HRM.out (below_two _ _ _) hGq (by simp; omega)
              go_roundw
              case rel =>
                have B := way_step (E p) (E p) (slotOf (T p) j) p HRM.out (below_two wr (.cells #[.int .i64 (E p), .int .i64 (T p)] 32) (.cells #[.int .i64 (E p), .int .i64 (E p), .int .i64 (slotOf (T p) j), .int .u64 p, .bool false, .bool false] 36)) hGq hlt HWY.out (slotOf_ge _ _) (slotOf_lt _ _)
                exact ⟨p + 1, by omega, by go_num, rfl, B.1, hBq.trans B.2.1, Nat.lt_of_lt_of_le hGq (B.2.1).size, B.2.2⟩
              case measure => simp [intOf]; omega
            · go_wp2_with fail
              refine (slot_any (T p) j _ tb.1 tb.2 hk).mono ?_
              rintro e wq ⟨rfl, rfl⟩
              go_wp2_with (first | (refine wpList_append_room _ rfl (.tmp 95) (.tmp 106) 30 rfl 36 j0 6 Yba.underlying30 hj0 hy1 wn.heap.size p m rfl ⟨wr.heap.size + 1, 0, none⟩ 1 [.int .i64 (pos.size : Int), .int .i64 (pos.size : Int), .int .i64 (slotOf (T p) j), .int .u64 p, .bool false, .bool false] rfl rfl ?n0b ?n1b (Nat.succ_le_of_lt hlt) ?n2b ?_))
              case n0b => exact new_at _ _ _ _ (by simp)
              case n1b => exact one_way _ _ _ _
              case n2b => exact spare_at HRM.out (below_two _ _ _) hGq (by simp; omega)
              go_roundw
              case rel =>
                have B := way_step (pos.size : Int) (pos.size : Int) (slotOf (T p) j) p HRM.out (below_two wr (.cells #[.int .i64 (E p), .int .i64 (T p)] 32) (.cells #[.int .i64 (pos.size : Int), .int .i64 (pos.size : Int), .int .i64 (slotOf (T p) j), .int .u64 p, .bool false, .bool false] 36)) hGq hlt HWY.out (slotOf_ge _ _) (slotOf_lt _ _)
                exact ⟨p + 1, by omega, by go_num, rfl, B.1, hBq.trans B.2.1, Nat.lt_of_lt_of_le hGq (B.2.1).size, B.2.2⟩
              case measure => simp [intOf]; omega
          · have hne : ¬ (p : Int) = (m : Int) - 1 := fun h => hlast h.symm
            have hnb : ((p : Int) == (m : Int) - 1) = false := by simpa using hne
            go_wp2_with fail
            refine (slot_any (T p) j _ tb.1 tb.2 hk).mono ?_
            rintro e wq ⟨rfl, rfl⟩
            go_wp2_with (first | (refine wpList_append_room _ rfl (.tmp 95) (.tmp 106) 30 rfl 36 j0 6 Yba.underlying30 hj0 hy1 wn.heap.size p m rfl ⟨wr.heap.size + 1, 0, none⟩ 1 [.int .i64 (E p), .int .i64 (E p), .int .i64 (slotOf (T p) j), .int .u64 p, .bool false, .bool false] rfl rfl ?n0c ?n1c (Nat.succ_le_of_lt hlt) ?n2c ?_))
            case n0c => exact new_at _ _ _ _ (by simp)
            case n1c => exact one_way _ _ _ _
            case n2c => exact spare_at HRM.out (below_two _ _ _) hGq (by simp; omega)
            go_roundw
            case rel =>
              have B := way_step (E p) (E p) (slotOf (T p) j) p HRM.out (below_two wr (.cells #[.int .i64 (E p), .int .i64 (T p)] 32) (.cells #[.int .i64 (E p), .int .i64 (E p), .int .i64 (slotOf (T p) j), .int .u64 p, .bool false, .bool false] 36)) hGq hlt HWY.out (slotOf_ge _ _) (slotOf_lt _ _)
              exact ⟨p + 1, by omega, by go_num, rfl, B.1, hBq.trans B.2.1, Nat.lt_of_lt_of_le hGq (B.2.1).size, B.2.2⟩
            case measure => simp [intOf]; omega
        · obtain rfl : p = m := by omega
          obtain ⟨wa, hwa⟩ : ∃ wa, wa = wr := ⟨_, rfl⟩
          subst hwa
          clear HRM HA HW HT
          go_wp2_with fail
          obtain ⟨wp, hwp⟩ : ∃ wp, wp = wa.alloc (.cells #[.string pos, .string ⟨#[119]⟩, .int .i64 0, .slice (some ⟨wn.heap.size, 0, none⟩) p p, .slice (some ⟨w.heap.size, 0, none⟩) j j] 39) := ⟨_, rfl⟩
          rw [← hwp]
          have hws : Ws wp wa.heap.size pos (.slice (some ⟨wn.heap.size, 0, none⟩) p p) (.slice (some ⟨w.heap.size, 0, none⟩) j j) := by
            subst hwp
            exact ⟨by rw [World.cell?_alloc_at _ _ _ _ rfl]; rfl, by rw [World.cell?_alloc_at _ _ _ _ rfl]; rfl, by rw [World.cell?_alloc_at _ _ _ _ rfl]; rfl⟩
          have hBp : Below wa.heap.size wa wp := by subst hwp; exact (Below.refl _ _).alloc (Nat.le_refl _) _
          have hGp : wa.heap.size < wp.heap.size := by subst hwp; simp
          have HWS : Hid (Ws wp wa.heap.size pos (.slice (some ⟨wn.heap.size, 0, none⟩) p p) (.slice (some ⟨w.heap.size, 0, none⟩) j j)) := hws
          have HBW : Hid (Below w.heap.size w wp) := hBr.trans ((hBq.mono (by omega)).trans (hBp.mono (by omega)))
          clear hwp hws
          by_cases hp0 : p = 0
          · subst hp0
            refine (maker_of_none wa.heap.size wp _ rfl (final_none wa.heap.size pos _ _ _ wp HWS.out)).mono ?_
            rintro e w3 ⟨rfl, hB3⟩
            have c0 := (hB3.cell (p := ⟨wa.heap.size, 0, none⟩) hGp).trans HWS.out.pos
            have c3 := (hB3.cell (p := ⟨wa.heap.size, 3, none⟩) hGp).trans HWS.out.all
            have c4 := (hB3.cell (p := ⟨wa.heap.size, 4, none⟩) hGp).trans HWS.out.named
            go_wp2
            refine wp_loop_rounds 1 ?_
            rw [rounds_succ]
            go_wp2
            go_ret
            exact ⟨rfl, HBW.out.trans (hB3.mono (by omega))⟩
          · obtain ⟨q, rfl⟩ : ∃ q, p = q + 1 := ⟨p - 1, by omega⟩
            obtain ⟨e, t, s, n, x, y, hl, hs1, hs2⟩ := HWY.out q (by omega)
            have hGn : wn.heap.size < wp.heap.size := by omega
            have HL : Hid (LastWay wp wn.heap.size q e t s n x y) := ⟨(hBp.cell (p := ⟨wn.heap.size, q * 6, none⟩) hGq).trans hl.c0, (hBp.cell (p := ⟨wn.heap.size, q * 6 + 1, none⟩) hGq).trans hl.c1, (hBp.cell (p := ⟨wn.heap.size, q * 6 + 2, none⟩) hGq).trans hl.c2, (hBp.cell (p := ⟨wn.heap.size, q * 6 + 3, none⟩) hGq).trans hl.c3, (hBp.cell (p := ⟨wn.heap.size, q * 6 + 4, none⟩) hGq).trans hl.c4, (hBp.cell (p := ⟨wn.heap.size, q * 6 + 5, none⟩) hGq).trans hl.c5⟩
            clear hl HWY
            by_cases he : e = (pos.size : Int)
            · subst he
              by_cases hs : s < 0
              · refine (maker_neg wa.heap.size wp _ t s n x y hs (final_full wa.heap.size pos wn.heap.size q _ _ _ t s n x y wp (by omega) HWS.out HL.out rfl)).mono ?_
                rintro r w3 ⟨rfl, hB3⟩
                have c0 := (hB3.cell (p := ⟨wa.heap.size, 0, none⟩) hGp).trans HWS.out.pos
                have c3 := (hB3.cell (p := ⟨wa.heap.size, 3, none⟩) hGp).trans HWS.out.all
                have c4 := (hB3.cell (p := ⟨wa.heap.size, 4, none⟩) hGp).trans HWS.out.named
                have l0 := (hB3.cell (p := ⟨wn.heap.size, q * 6, none⟩) hGn).trans HL.out.c0
                have l1 := (hB3.cell (p := ⟨wn.heap.size, q * 6 + 1, none⟩) hGn).trans HL.out.c1
                have l2 := (hB3.cell (p := ⟨wn.heap.size, q * 6 + 2, none⟩) hGn).trans HL.out.c2
                have l3 := (hB3.cell (p := ⟨wn.heap.size, q * 6 + 3, none⟩) hGn).trans HL.out.c3
                have l4 := (hB3.cell (p := ⟨wn.heap.size, q * 6 + 4, none⟩) hGn).trans HL.out.c4
                have l5 := (hB3.cell (p := ⟨wn.heap.size, q * 6 + 5, none⟩) hGn).trans HL.out.c5
                have hg3 := hB3.size
                have hP3 : wa.heap.size < w3.heap.size := by omega
                have hA3 : wn.heap.size < w3.heap.size := by omega
                have hne0 : ((0 : Int) < (q : Int) + 1) = True := by simp
                have hs' : ¬ 0 ≤ s := by omega
                go_wp2
                refine wp_loop_rounds 1 ?_
                rw [rounds_succ]
                go_wp2
                go_ret
                exact ⟨rfl, HBW.out.trans ((hB3.mono (by omega)).trans ((Below.refl _ _).alloc (by omega) _))⟩
              · obtain ⟨s, rfl⟩ : ∃ s' : Nat, s = (s' : Int) := ⟨s.toNat, by omega⟩
                obtain ⟨st, en, hse, hel, n0, n1, n2⟩ := HAT.out s (by omega)
                have k0 : wp.cell? ⟨w.heap.size, s * 3, none⟩ = some (.int .i64 st) := (hBp.cell (p := ⟨w.heap.size, s * 3, none⟩) (by simp; omega)).trans ((hBq.cell (p := ⟨w.heap.size, s * 3, none⟩) hGr).trans n0)
                have k1 : wp.cell? ⟨w.heap.size, s * 3 + 1, none⟩ = some (.int .i64 en) := (hBp.cell (p := ⟨w.heap.size, s * 3 + 1, none⟩) (by simp; omega)).trans ((hBq.cell (p := ⟨w.heap.size, s * 3 + 1, none⟩) hGr).trans n1)
                have k2 : wp.cell? ⟨w.heap.size, s * 3 + 2, none⟩ = some (.bool false) := (hBp.cell (p := ⟨w.heap.size, s * 3 + 2, none⟩) (by simp; omega)).trans ((hBq.cell (p := ⟨w.heap.size, s * 3 + 2, none⟩) hGr).trans n2)
                have hsj : s < j := by omega
                refine (maker_some wa.heap.size wp pos _ w.heap.size j _ HWS.out _ t n s x y hsj st en false hse hel k0 k1 k2 (final_full wa.heap.size pos wn.heap.size q _ _ _ t s n x y wp (by omega) HWS.out HL.out rfl)).mono ?_
                rintro r w3 ⟨rfl, hB3⟩
                have c0 := (hB3.cell (p := ⟨wa.heap.size, 0, none⟩) hGp).trans HWS.out.pos
                have c3 := (hB3.cell (p := ⟨wa.heap.size, 3, none⟩) hGp).trans HWS.out.all
                have c4 := (hB3.cell (p := ⟨wa.heap.size, 4, none⟩) hGp).trans HWS.out.named
                have l0 := (hB3.cell (p := ⟨wn.heap.size, q * 6, none⟩) hGn).trans HL.out.c0
                have l1 := (hB3.cell (p := ⟨wn.heap.size, q * 6 + 1, none⟩) hGn).trans HL.out.c1
                have l2 := (hB3.cell (p := ⟨wn.heap.size, q * 6 + 2, none⟩) hGn).trans HL.out.c2
                have l3 := (hB3.cell (p := ⟨wn.heap.size, q * 6 + 3, none⟩) hGn).trans HL.out.c3
                have l4 := (hB3.cell (p := ⟨wn.heap.size, q * 6 + 4, none⟩) hGn).trans HL.out.c4
                have l5 := (hB3.cell (p := ⟨wn.heap.size, q * 6 + 5, none⟩) hGn).trans HL.out.c5
                have hg3 := hB3.size
                have hP3 : wa.heap.size < w3.heap.size := by omega
                have hA3 : wn.heap.size < w3.heap.size := by omega
                have hne0 : ((0 : Int) < (q : Int) + 1) = True := by simp
                have hGw : w.heap.size < wp.heap.size := by omega
                have m0 := (hB3.cell (p := ⟨w.heap.size, s * 3, none⟩) hGw).trans k0
                have m1 := (hB3.cell (p := ⟨w.heap.size, s * 3 + 1, none⟩) hGw).trans k1
                have hN3 : w.heap.size < w3.heap.size := by omega
                have hs0 : (0 : Int) ≤ (s : Int) := by omega
                have hsz : (pos.extract st en).size = en - st := by simp [ByteArray.size_extract]; omega
                have hsub : (en : Int) - (st : Int) = ((en - st : Nat) : Int) := by omega
                clear n0 n1 n2 k0 k1 k2 hs hs1 hs2
                obtain ⟨g, hg⟩ : ∃ g, g = pos.extract st en := ⟨_, rfl⟩
                rw [← hg] at hsz ⊢
                have HG : Hid (g = pos.extract st en) := hg
                clear hg
                go_wp2
                obtain ⟨w4, hw4⟩ : ∃ w4, w4 = w3.alloc (.cells #[.int .i64 pos.size, .int .i64 t, .int .i64 s, .int .u64 n, .bool x, .bool y] 36) := ⟨_, rfl⟩
                rw [← hw4]
                have hB4 : Below w3.heap.size w3 w4 := by subst hw4; exact (Below.refl _ _).alloc (Nat.le_refl _) _
                have HB4 : Hid (Below w.heap.size w w4) := HBW.out.trans ((hB3.mono (by omega)).trans (hB4.mono (by omega)))
                have v0 := (hB4.cell (p := ⟨wa.heap.size, 0, none⟩) hP3).trans c0
                have v3 := (hB4.cell (p := ⟨wa.heap.size, 3, none⟩) hP3).trans c3
                have v4 := (hB4.cell (p := ⟨wa.heap.size, 4, none⟩) hP3).trans c4
                have hP4 : wa.heap.size < w4.heap.size := by have := hB4.size; omega
                clear hw4 hB4 c0 c3 c4 l0 l1 l2 l3 l4 l5 m0 m1 hB3
                go_loopw [25] (fun i wr => ∃ a : Nat, a ≤ en - st ∧ i = .int .i64 a ∧ Below w4.heap.size w4 wr) (fun i _ => (en - st) - (intOf i).toNat)
                case atStart => exact ⟨0, Nat.zero_le _, rfl, Below.refl _ _⟩
                case round =>
                  obtain ⟨a, ha, rfl, hB5⟩ := hrel
                  by_cases hlt3 : a < en - st
                  · have hlg : a < g.size := by omega
                    obtain ⟨b, hb, hlp⟩ : ∃ b : Nat, (st : Int) + (a : Int) = (b : Int) ∧ b < pos.size := ⟨st + a, by simp, by omega⟩
                    have hgb : g[a]'hlg = pos[b]'hlp := cut_at HG.out hlg hlp (by omega)
                    go_wp2
                    go_quiet (fail)
                    go_wp2
                    go_roundw
                    case rel => exact ⟨a + 1, by omega, by go_num, drewN_below hB5 _⟩
                    case measure => simp [intOf]; omega
                  · obtain rfl : a = en - st := by omega
                    have u0 := (hB5.cell (p := ⟨wa.heap.size, 0, none⟩) hP4).trans v0
                    have u3 := (hB5.cell (p := ⟨wa.heap.size, 3, none⟩) hP4).trans v3
                    have u4 := (hB5.cell (p := ⟨wa.heap.size, 4, none⟩) hP4).trans v4
                    have hnl : ¬ ((en - st : Nat) : Int) < (g.size : Int) := by omega
                    go_wp2
                    go_ret
                    exact ⟨rfl, HB4.out.trans (hB5.mono (by omega))⟩
            · refine (maker_of_none wa.heap.size wp _ rfl (final_short wa.heap.size pos wn.heap.size q _ _ e t s n x y wp (by omega) HWS.out HL.out he)).mono ?_
              rintro r w3 ⟨rfl, hB3⟩
              have c0 := (hB3.cell (p := ⟨wa.heap.size, 0, none⟩) hGp).trans HWS.out.pos
              have c3 := (hB3.cell (p := ⟨wa.heap.size, 3, none⟩) hGp).trans HWS.out.all
              have c4 := (hB3.cell (p := ⟨wa.heap.size, 4, none⟩) hGp).trans HWS.out.named
              have l0 := (hB3.cell (p := ⟨wn.heap.size, q * 6, none⟩) hGn).trans HL.out.c0
              have l1 := (hB3.cell (p := ⟨wn.heap.size, q * 6 + 1, none⟩) hGn).trans HL.out.c1
              have l2 := (hB3.cell (p := ⟨wn.heap.size, q * 6 + 2, none⟩) hGn).trans HL.out.c2
              have l3 := (hB3.cell (p := ⟨wn.heap.size, q * 6 + 3, none⟩) hGn).trans HL.out.c3
              have l4 := (hB3.cell (p := ⟨wn.heap.size, q * 6 + 4, none⟩) hGn).trans HL.out.c4
              have l5 := (hB3.cell (p := ⟨wn.heap.size, q * 6 + 5, none⟩) hGn).trans HL.out.c5
              have hg3 := hB3.size
              have hP3 : wa.heap.size < w3.heap.size := by omega
              have hA3 : wn.heap.size < w3.heap.size := by omega
              have hne0 : ((0 : Int) < (q : Int) + 1) = True := by simp
              have heb : (e == (pos.size : Int)) = false := by simpa using he
              go_wp2
              refine wp_loop_rounds 1 ?_
              rw [rounds_succ]
              go_wp2
              go_ret
              exact ⟨rfl, HBW.out.trans ((hB3.mono (by omega)).trans ((Below.refl _ _).alloc (by omega) _))⟩
end Go.Proofs.Ybulkedq
