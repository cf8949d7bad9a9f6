/-
  THE WALKS OF (*waypoints).final AND (*waypoints).maker.
-/
import Derived.Test.YbulkedqSmall
import Derived.WalkKit
import Derived.WalkSpells
import Derived.BigQuiet
import Derived.Below
namespace Go.Proofs.Ybulkedq
open Go.RowKit

theorem drewN_below {B : Nat} {a w : World} (h : Below B a w) (n : Nat) : Below B a (w.drewN n) := h.trans ⟨rfl, rfl, rfl, Nat.le_refl _, fun _ _ => rfl⟩

/-- A reading: its position, its waypoints' slice, its named writers' slice. -/
structure Ws (w : World) (P : Nat) (pos : ByteArray) (all named : Value) : Prop where
  pos : w.cell? ⟨P, 0, none⟩ = some (.string pos)
  all : w.cell? ⟨P, 3, none⟩ = some all
  named : w.cell? ⟨P, 4, none⟩ = some named

/-- The last of q + 1 waypoints. -/
structure LastWay (w : World) (A q : Nat) (e t s n : Int) (x y : Bool) : Prop where
  c0 : w.cell? ⟨A, q * 6, none⟩ = some (.int .i64 e)
  c1 : w.cell? ⟨A, q * 6 + 1, none⟩ = some (.int .i64 t)
  c2 : w.cell? ⟨A, q * 6 + 2, none⟩ = some (.int .i64 s)
  c3 : w.cell? ⟨A, q * 6 + 3, none⟩ = some (.int .u64 n)
  c4 : w.cell? ⟨A, q * 6 + 4, none⟩ = some (.bool x)
  c5 : w.cell? ⟨A, q * 6 + 5, none⟩ = some (.bool y)

set_option maxHeartbeats 400000 in
theorem final_none (P : Nat) (pos : ByteArray) (a : Addr) (c : Nat) (nm : Value) (w : World) (h : Ws w P pos (.slice (some a) 0 c) nm) :
    Calls Yba.prog 6 #[.pointer (some ⟨P, 0, none⟩)] w fun e w' => e = .returned (.tuple #[.agg #[.int .i64 0, .int .i64 0, .int .i64 0, .int .u64 0, .bool false, .bool false], .bool false]) ∧ Below w.heap.size w w' := by
  have q0 := h.pos
  have q1 := h.all
  have hP : P < w.heap.size := World.block_lt_of_cell? w _ q0
  go_enter Yba.func6, Yba.ntmps6
  go_wp2
  go_quiet (fail)
  go_wp2
  refine bodyPost_ret (v := .tuple #[.agg #[.int .i64 0, .int .i64 0, .int .i64 0, .int .u64 0, .bool false, .bool false], .bool false]) (by simp [results, Yba.results6, go_sem]) rfl ⟨rfl, ?_⟩
  exact ((((((drewN_below ((Below.refl _ _).alloc (Nat.le_refl _) _) _).setCell (Nat.le_refl _) _).setCell (Nat.le_refl _) _).setCell (Nat.le_refl _) _).setCell (Nat.le_refl _) _).setCell (Nat.le_refl _) _).setCell (Nat.le_refl _) _

set_option maxHeartbeats 400000 in
theorem final_short (P : Nat) (pos : ByteArray) (A q c : Nat) (nm : Value) (e t s n : Int) (x y : Bool) (w : World) (hq : q < 1024) (h : Ws w P pos (.slice (some ⟨A, 0, none⟩) (q + 1) c) nm) (hl : LastWay w A q e t s n x y) (he : ¬ e = (pos.size : Int)) :
    Calls Yba.prog 6 #[.pointer (some ⟨P, 0, none⟩)] w fun e w' => e = .returned (.tuple #[.agg #[.int .i64 0, .int .i64 0, .int .i64 0, .int .u64 0, .bool false, .bool false], .bool false]) ∧ Below w.heap.size w w' := by
  have q0 := h.pos
  have q1 := h.all
  have hP : P < w.heap.size := World.block_lt_of_cell? w _ q0
  have l0 := hl.c0
  have hA : A < w.heap.size := World.block_lt_of_cell? w _ l0
  have hne : ((q : Int) + 1 == 0) = false := by simp; omega
  have hne' : ¬ (q : Int) + 1 = 0 := by omega
  go_enter Yba.func6, Yba.ntmps6
  go_wp2
  go_quiet (fail)
  go_wp2
  refine bodyPost_ret (v := .tuple #[.agg #[.int .i64 0, .int .i64 0, .int .i64 0, .int .u64 0, .bool false, .bool false], .bool false]) (by simp [results, Yba.results6, go_sem]) rfl ⟨rfl, ?_⟩
  exact ((((((drewN_below ((Below.refl _ _).alloc (Nat.le_refl _) _) _).setCell (Nat.le_refl _) _).setCell (Nat.le_refl _) _).setCell (Nat.le_refl _) _).setCell (Nat.le_refl _) _).setCell (Nat.le_refl _) _).setCell (Nat.le_refl _) _

set_option maxHeartbeats 400000 in
theorem final_full (P : Nat) (pos : ByteArray) (A q c : Nat) (nm : Value) (e t s n : Int) (x y : Bool) (w : World) (hq : q < 1024) (h : Ws w P pos (.slice (some ⟨A, 0, none⟩) (q + 1) c) nm) (hl : LastWay w A q e t s n x y) (he : e = (pos.size : Int)) :
    Calls Yba.prog 6 #[.pointer (some ⟨P, 0, none⟩)] w fun r w' => r = .returned (.tuple #[.agg #[.int .i64 e, .int .i64 t, .int .i64 s, .int .u64 n, .bool x, .bool y], .bool true]) ∧ Below w.heap.size w w' := by
  have q0 := h.pos
  have q1 := h.all
  have hP : P < w.heap.size := World.block_lt_of_cell? w _ q0
  obtain ⟨l0, l1, l2, l3, l4, l5⟩ := hl
  have hA : A < w.heap.size := World.block_lt_of_cell? w _ l0
  have hne : ((q : Int) + 1 == 0) = false := by simp; omega
  have hne' : ¬ (q : Int) + 1 = 0 := by omega
  go_enter Yba.func6, Yba.ntmps6
  go_wp2
  go_quiet (fail)
  go_wp2
  go_region
  go_wp2
  refine bodyPost_ret (v := .tuple #[.agg #[.int .i64 e, .int .i64 t, .int .i64 s, .int .u64 n, .bool x, .bool y], .bool true]) (by simp [results, Yba.results6, go_sem, he]) rfl ⟨rfl, ?_⟩
  exact ((((((drewN_below ((Below.refl _ _).alloc (Nat.le_refl _) _) _).setCell (Nat.le_refl _) _).setCell (Nat.le_refl _) _).setCell (Nat.le_refl _) _).setCell (Nat.le_refl _) _).setCell (Nat.le_refl _) _).setCell (Nat.le_refl _) _

/-- Where the position does not end in a waypoint that names a writer. -/
theorem maker_of_none (P : Nat) (w : World) (v : Value) (hv : v = .agg #[.int .i64 0, .int .i64 0, .int .i64 0, .int .u64 0, .bool false, .bool false])
    (h : Calls Yba.prog 6 #[.pointer (some ⟨P, 0, none⟩)] w fun e w' => e = .returned (.tuple #[v, .bool false]) ∧ Below w.heap.size w w') :
    Calls Yba.prog 5 #[.pointer (some ⟨P, 0, none⟩)] w fun e w' => e = .returned (.tuple #[.string ⟨#[]⟩, .bool false]) ∧ Below w.heap.size w w' := by
  subst hv
  go_enter Yba.func5, Yba.ntmps5
  go_wp2_with fail
  refine h.mono ?_
  rintro e w1 ⟨rfl, hB⟩
  go_wp2
  go_ret2
  refine ⟨rfl, ?_⟩
  have hg0 := hB.size
  repeat' first | exact hB | refine Below.setCell ?_ (by simp; omega) _ | refine drewN_below ?_ _ | refine Below.drew ?_ | refine Below.alloc ?_ (by first | exact hg0 | (simp; omega)) _

theorem maker_neg (P : Nat) (w : World) (e t s n : Int) (x y : Bool) (hs : s < 0)
    (h : Calls Yba.prog 6 #[.pointer (some ⟨P, 0, none⟩)] w fun r w' => r = .returned (.tuple #[.agg #[.int .i64 e, .int .i64 t, .int .i64 s, .int .u64 n, .bool x, .bool y], .bool true]) ∧ Below w.heap.size w w') :
    Calls Yba.prog 5 #[.pointer (some ⟨P, 0, none⟩)] w fun e w' => e = .returned (.tuple #[.string ⟨#[]⟩, .bool false]) ∧ Below w.heap.size w w' := by
  go_enter Yba.func5, Yba.ntmps5
  go_wp2_with fail
  refine h.mono ?_
  rintro e w1 ⟨rfl, hB⟩
  go_wp2
  go_ret2
  refine ⟨rfl, ?_⟩
  have hg0 := hB.size
  repeat' first | exact hB | refine Below.setCell ?_ (by simp; omega) _ | refine drewN_below ?_ _ | refine Below.drew ?_ | refine Below.alloc ?_ (by first | exact hg0 | (simp; omega)) _

theorem maker_some (P : Nat) (w : World) (pos : ByteArray) (all : Value) (N k c : Nat) (hw : Ws w P pos all (.slice (some ⟨N, 0, none⟩) k c)) (e t n : Int) (s : Nat) (x y : Bool) (hs : s < k)
    (st en : Nat) (z : Bool) (h1 : st ≤ en) (h2 : en ≤ pos.size)
    (c0 : w.cell? ⟨N, s * 3, none⟩ = some (.int .i64 st)) (c1 : w.cell? ⟨N, s * 3 + 1, none⟩ = some (.int .i64 en)) (c2 : w.cell? ⟨N, s * 3 + 2, none⟩ = some (.bool z))
    (h : Calls Yba.prog 6 #[.pointer (some ⟨P, 0, none⟩)] w fun r w' => r = .returned (.tuple #[.agg #[.int .i64 e, .int .i64 t, .int .i64 s, .int .u64 n, .bool x, .bool y], .bool true]) ∧ Below w.heap.size w w') :
    Calls Yba.prog 5 #[.pointer (some ⟨P, 0, none⟩)] w fun e w' => e = .returned (.tuple #[.string (pos.extract st en), .bool true]) ∧ Below w.heap.size w w' := by
  have hP : P < w.heap.size := World.block_lt_of_cell? w _ hw.pos
  have hN : N < w.heap.size := World.block_lt_of_cell? w _ c0
  go_enter Yba.func5, Yba.ntmps5
  go_wp2_with fail
  refine h.mono ?_
  rintro e w1 ⟨rfl, hB⟩
  have q0 := (hB.cell (p := ⟨P, 0, none⟩) hP).trans hw.pos
  have q1 := (hB.cell (p := ⟨P, 4, none⟩) hP).trans hw.named
  have r0 := (hB.cell (p := ⟨N, s * 3, none⟩) hN).trans c0
  have r1 := (hB.cell (p := ⟨N, s * 3 + 1, none⟩) hN).trans c1
  have r2 := (hB.cell (p := ⟨N, s * 3 + 2, none⟩) hN).trans c2
  have hg := hB.size
  have hP1 : P < w1.heap.size := by omega
  have hN1 : N < w1.heap.size := by omega
  go_wp2
  go_region
  go_wp2
  go_quiet (fail)
  go_wp2
  go_ret2
  refine ⟨rfl, ?_⟩
  have hg0 := hB.size
  repeat' first | exact hB | refine Below.setCell ?_ (by simp; omega) _ | refine drewN_below ?_ _ | refine Below.drew ?_ | refine Below.alloc ?_ (by first | exact hg0 | (simp; omega)) _
end Go.Proofs.Ybulkedq
