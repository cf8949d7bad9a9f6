/-
  THE WALK OF 'zzs0241cbuild', the law's own maker of an environment.
-/
import Derived.Test.YbulkdyuEnv
import Derived.Deep.RegionLaw
import Derived.Deep.RegionHeld3
namespace Go.Proofs.Ybulkdyu
open Go.RowKit

theorem eql22_some (a : Addr) (n c : Nat) (w : World) : (binOp .eql 22 (.slice (some a) n c) (.slice none 0 0)).run Yba.prog w = .ok (.bool false) w :=
  Lib.run_eql_slice_nil w 22 30 (some a) n c 0 0 Yba.underlying22
theorem eql22_none (w : World) : (binOp .eql 22 (.slice none 0 0) (.slice none 0 0)).run Yba.prog w = .ok (.bool true) w :=
  Lib.run_eql_slice_nil w 22 30 none 0 0 0 0 Yba.underlying22

/-- The variables in a row of cells. -/
structure VarRow (w : World) (b off n : Nat) (K : Nat → Int) (R : Nat → ByteArray) : Prop where
  k : ∀ i, i < n → w.cell? ⟨b, off + i * 2, none⟩ = some (.int .u8 (K i))
  r : ∀ i, i < n → w.cell? ⟨b, off + i * 2 + 1, none⟩ = some (.string (R i))

/-- A block of n cells that may be written. -/
structure Room (w : World) (G N : Nat) : Prop where
  cell : ∀ o, o < N → ∃ v, w.cell? ⟨G, o, none⟩ = some v
  free : ∀ o, w.frozen? ⟨G, o, none⟩ = false

theorem one_new (w : World) (s : ByteArray) (t : TypeId) : ∀ j u, ([Value.string s] : List Value)[j]? = some u → (w.alloc (.cells #[.string s] t)).cell? ((⟨w.heap.size, 0, none⟩ : Addr).add j) = some u := by
  intro j u hj
  match j, hj with
  | 0, hj => simp at hj; subst hj; simp [Addr.add]
theorem str_one (s : ByteArray) : ∀ u ∈ ([Value.string s] : List Value), u.oneCell' = true := by
  intro u hu
  simp at hu
  subst hu
  rfl
theorem spare_one {w : World} {G k : Nat} {v : Value} {s : ByteArray} {t : TypeId} (hG : G < w.heap.size) (c : w.cell? ⟨G, k, none⟩ = some v) (f : w.frozen? ⟨G, k, none⟩ = false) :
    ∀ j, j < ([Value.string s] : List Value).length → (((w.drew).alloc (.cells #[.string s] t)).cell? ⟨G, 0 + k * 1 + j, none⟩).isSome = true ∧ ((w.drew).alloc (.cells #[.string s] t)).frozen? ⟨G, 0 + k * 1 + j, none⟩ = false := by
  intro j hj
  have e : 0 + k * 1 + j = k := by simp at hj; omega
  rw [e, World.cell?_alloc_past _ _ _ (by exact hG), World.frozen?_alloc_past _ _ _ (by exact hG)]
  exact ⟨by show (w.cell? ⟨G, k, none⟩).isSome = true; rw [c]; rfl, f⟩

theorem build_step {w wr : World} {n k : Nat} {E : Nat → ByteArray} (hr : Room wr w.heap.size n) (hB : Below w.heap.size w wr) (hG : w.heap.size < wr.heap.size) (hk : k < n) (hat : ∀ j, j < k → wr.cell? ⟨w.heap.size, j, none⟩ = some (.string (E j))) (s : ByteArray) (hs : s = E k) (o : Obj) :
    Room ((wr.alloc o).drew.setCells w.heap.size k [.string s]) w.heap.size n ∧ Below w.heap.size w ((wr.alloc o).drew.setCells w.heap.size k [.string s]) ∧ w.heap.size < ((wr.alloc o).drew.setCells w.heap.size k [.string s]).heap.size ∧
      ∀ j, j < k + 1 → ((wr.alloc o).drew.setCells w.heap.size k [.string s]).cell? ⟨w.heap.size, j, none⟩ = some (.string (E j)) := by
  show Room ((wr.alloc o).drew.setCell ⟨w.heap.size, k, none⟩ (.string s)) w.heap.size n ∧ Below w.heap.size w ((wr.alloc o).drew.setCell ⟨w.heap.size, k, none⟩ (.string s)) ∧ w.heap.size < ((wr.alloc o).drew.setCell ⟨w.heap.size, k, none⟩ (.string s)).heap.size ∧
      ∀ j, j < k + 1 → ((wr.alloc o).drew.setCell ⟨w.heap.size, k, none⟩ (.string s)).cell? ⟨w.heap.size, j, none⟩ = some (.string (E j))
  have old : ∀ j, (wr.alloc o).drew.cell? ⟨w.heap.size, j, none⟩ = wr.cell? ⟨w.heap.size, j, none⟩ := fun j => World.cell?_alloc_past (w := wr) _ _ _ (by exact hG)
  refine ⟨⟨fun q hq => ?_, fun q => ?_⟩, ((hB.alloc (by omega) o).drew).setCell (Nat.le_refl _) _, ?_, fun j hj => ?_⟩
  · obtain ⟨v, hv⟩ := hr.cell q hq
    exact cell?_setCell_some ((old q).trans hv)
  · exact (World.frozen?_setCell _ _ _ _).trans ((World.frozen?_alloc_past (w := wr) _ _ _ (by exact hG)).trans (hr.free q))
  · have : ((wr.alloc o).drew.setCell ⟨w.heap.size, k, none⟩ (.string s)).heap.size = wr.heap.size + 1 := by simp [World.setCell]
    omega
  · by_cases hjk : j = k
    · subst hjk
      obtain ⟨v, hv⟩ := hr.cell j hk
      rw [World.cell?_setCell_same _ _ _ ((old j).trans hv), hs]
    · exact (World.cell?_setCell_other _ _ _ _ (by intro he; injection he with _ e2; omega)).trans ((old j).trans (hat j (by omega)))

set_option maxHeartbeats 800000 in
theorem build_some (b off n c : Nat) (K : Nat → Int) (R : Nat → ByteArray) (w : World) (hn : n ≤ 1024) (hv : VarRow w b off n K R) (hK : ∀ i, 0 ≤ K i ∧ K i ≤ 255) (hR : ∀ i, (R i).size ≤ 1000000000000000) (hb : 0 < n → b < w.heap.size) (a : Addr) (ha : 0 < n → a = ⟨b, off, none⟩) :
    Calls Yba.prog 5 #[.slice (some a) n c] w fun e w' => e = .returned (.slice (some ⟨w.heap.size, 0, none⟩) n n) ∧ Below w.heap.size w w' ∧ w.heap.size < w'.heap.size ∧ ∀ j, j < n → w'.cell? ⟨w.heap.size, j, none⟩ = some (.string (pfx (K j) ++ R j)) := by
  obtain ⟨i0, hi, hz0, hz1, hz2⟩ := info_parts info9
  have hq := eql22_some
  have HV : Hid (VarRow w b off n K R) := hv
  have HK : Hid (∀ i, 0 ≤ K i ∧ K i ≤ 255) := hK
  have HR : Hid (∀ i, (R i).size ≤ 1000000000000000) := hR
  have HA : Hid (0 < n → a = ⟨b, off, none⟩) := ha
  have HB : Hid (0 < n → b < w.heap.size) := hb
  clear hv hK hR ha hb
  go_enter Yba.func5, Yba.ntmps5
  go_wp2_with (first | (refine wpList_make_own _ rfl (.const (.int .i64 0)) (.tmp 8) 23 rfl w.heap.size 9 i0 _ 1 Yba.underlying23 hi hz0 hz1 _ _ _ n rfl rfl rfl ?c1 ?c2 (Nat.le_refl _) ?_))
  case c1 => rw [hz2]; omega
  case c2 => unfold maxLen; omega
  intro w1 hown hgrow
  have hroom : Room w1 w.heap.size n := by
    rcases hown.2 with ⟨h, _⟩ | ⟨g, cap, cur, h, _, hh, _, _, hs, _⟩
    · cases h
    · cases h
      refine ⟨fun o ho => ?_, fun o => by simp [World.frozen?, hh]⟩
      have hlt : o < cur.size := by omega
      exact ⟨cur[o], by simp [World.cell?, hh, hlt]⟩
  have hB : Below w.heap.size w w1 := (Below.refl _ _).grown hgrow (Nat.le_refl _) (by intro k h; cases h)
  have hG : w.heap.size < w1.heap.size := (hown.lt _ rfl).2
  clear hown hgrow
  go_wp2
  go_loopw [3, 4] (fun v i wr => ∃ k : Nat, k ≤ n ∧ i = .int .i64 k ∧ v = .slice (some ⟨w.heap.size, 0, none⟩) k n ∧ Room wr w.heap.size n ∧ Below w.heap.size w wr ∧ w.heap.size < wr.heap.size ∧ ∀ j, j < k → wr.cell? ⟨w.heap.size, j, none⟩ = some (.string (pfx (K j) ++ R j))) (fun _ i _ => n - (intOf i).toNat)
  case atStart => exact ⟨0, Nat.zero_le _, rfl, rfl, hroom, hB, hG, fun j hj => absurd hj (by omega)⟩
  case round =>
    obtain ⟨k, hk, rfl, rfl, hrm, hBr, hGr, hat⟩ := hrel
    have HRM : Hid (Room wr w.heap.size n) := hrm
    have HAT : Hid (∀ j, j < k → wr.cell? ⟨w.heap.size, j, none⟩ = some (.string (pfx (K j) ++ R j))) := hat
    clear hrm hat
    by_cases hlt : k < n
    · obtain rfl := HA.out (by omega)
      have hb := HB.out (by omega)
      have q0 := (hBr.cell (p := ⟨b, off + k * 2, none⟩) hb).trans (HV.out.k k hlt)
      have q1 := (hBr.cell (p := ⟨b, off + k * 2 + 1, none⟩) hb).trans (HV.out.r k hlt)
      have bk := HK.out k
      have br := HR.out k
      have bp := pfx_size (K k)
      have hadd : ∀ w, (Op.stringOp .add (pfx (K k)) (R k)).run Yba.prog w = .ok (.string (pfx (K k) ++ R k)) w := fun w => run_string_add_sum (P := Yba.prog) w (pfx (K k)) (R k) (by omega)
      have hbne : ¬ b = w.heap.size := by omega
      have hbne2 : ¬ w.heap.size = b := by omega
      obtain ⟨v0, c0⟩ := HRM.out.cell k hlt
      have f0 := HRM.out.free k
      have hbr : b < wr.heap.size := by omega
      go_wp2_with fail
      go_region_held3 (fun w' => w'.cell? ⟨b, off + k * 2, none⟩ = some (.int .u8 (K k)) ∧ w'.cell? ⟨b, off + k * 2 + 1, none⟩ = some (.string (R k))) (simp [*, World.setCells, World.cell?_alloc_some, World.cell?_setCell_far]) (first | (go_at_call 8; refine (prefix_any (K k) _ bk.1 bk.2).mono ?_; rintro e w' ⟨rfl, rfl⟩) | (refine step_append_room rfl (.tmp 16) (.tmp 29) 23 rfl 9 i0 1 Yba.underlying23 hi hz1 w.heap.size 0 k n rfl ⟨wr.heap.size, 0, none⟩ 1 1 [.string (pfx (K k) ++ R k)] rfl rfl (fun j u hj => one_new _ _ _ j u hj) (str_one _) (by omega) (spare_one hGr c0 f0) ?_))
      go_wp2
      go_roundw
      case rel =>
        have B := build_step HRM.out hBr hGr hlt HAT.out (pfx (K k) ++ R k) rfl (.cells #[.string (pfx (K k) ++ R k)] 9)
        exact ⟨k + 1, by omega, by go_num, rfl, B.1, B.2.1, B.2.2.1, B.2.2.2⟩
      case measure => simp [intOf]; omega
    · obtain rfl : k = n := by omega
      go_wp2
      go_ret
      exact ⟨rfl, hBr, hGr, HAT.out⟩

set_option maxHeartbeats 400000 in
theorem build_nil (w : World) : Calls Yba.prog 5 #[.slice none 0 0] w fun e w' => e = .returned (.slice none 0 0) ∧ w' = w := by
  have hq := eql22_none
  go_enter Yba.func5, Yba.ntmps5
  go_wp2
  go_ret
  exact ⟨rfl, rfl⟩
end Go.Proofs.Ybulkdyu
