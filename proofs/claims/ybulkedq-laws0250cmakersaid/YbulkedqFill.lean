/-
  A ROW THAT IS MADE EMPTY WITH ROOM, AND FILLED BY ONE APPEND A ROUND, its elements of several cells.
-/
import Derived.Test.YbulkedqFinal
import Derived.ArgAppend
import Derived.Deep.MidRow
namespace Go.Proofs.Ybulkedq
open Go.RowKit

/-- A block of n cells that may be written. -/
structure Room (w : World) (G N : Nat) : Prop where
  cell : ∀ o, o < N → (w.cell? ⟨G, o, none⟩).isSome = true
  free : ∀ o, w.frozen? ⟨G, o, none⟩ = false

theorem room_of_made {w' : World} {base e size n g : Nat} (h : w'.ownsRow base e size (.slice (some ⟨g, 0, none⟩) 0 n) 0 []) : Room w' g (n * size) := by
  rcases h.2 with ⟨h, _⟩ | ⟨g, cap, cur, h, _, hh, _, _, hs, _⟩
  · cases h
  · cases h
    refine ⟨fun o ho => ?_, fun o => by simp [World.frozen?, hh]⟩
    have hlt : o < cur.size := by omega
    simp [World.cell?, hh, hlt]

theorem below_setCells {B G : Nat} {a : World} (hG : B ≤ G) : ∀ (vs : List Value) (o : Nat) (w : World), Below B a w → Below B a (w.setCells G o vs)
  | [], _, _, h => h
  | v :: r, o, w, h => below_setCells hG r (o + 1) (w.setCell ⟨G, o, none⟩ v) (h.setCell hG v)

/-- The append within the capacity. -/
theorem wpList_append_room {P : Program} (w : World) {ops : Array Oper} {rest : List Oper} {o : Oper} {a : Act} {Q : Exit → Act → World → Prop}
    (hg : o.guard = none) (s x : Operand) (t : TypeId) (hop : o.op = Op.call { callee := Callee.builtin Builtin.append, args := #[s, x], argTypes := #[t, t] })
    (e : TypeId) (i : TypeInfo) (size : Nat) (h1 : P.underlying t = some (.slice e)) (h2 : P.info? e = some i) (h4 : i.size = size)
    (b n cap : Nat) (hs : a.eval s = .slice (some ⟨b, 0, none⟩) n cap)
    (ad : Addr) (c : Nat) (news : List Value) (hx : a.eval x = .slice (some ad) 1 c) (hn : news.length = 1 * size) (hc : ∀ j u, news[j]? = some u → w.cell? (ad.add j) = some u) (h1c : ∀ u ∈ news, u.oneCell' = true)
    (hr : n + 1 ≤ cap) (hspare : ∀ j, j < news.length → (w.cell? ⟨b, n * size + j, none⟩).isSome = true ∧ w.frozen? ⟨b, n * size + j, none⟩ = false)
    (hroom : wpList P ops Q rest (a.put o.dst (.slice (some ⟨b, 0, none⟩) (n + 1) cap)) (w.setCells b (n * size) news)) :
    wpList P ops Q (o :: rest) a w := by
  refine wpList_plain hg fun K hK' => ?_
  subst h4
  have hrun := run_append_room_cells (P := P) w t o.type e i h1 h2 b 0 n cap ad 1 c news hn hc h1c hr (fun j hj => by simpa using (hspare j hj).1) (fun j hj => by simpa using (hspare j hj).2)
  unfold Oper.wp
  simp [execOp, hop, resolve, invoke, builtin, hs, hx, hrun, Result.andThen]
  exact hK' _ _ hroom

/-- What one append does to the row. -/
theorem fill_step {wr wx : World} {G tot o : Nat} {news : List Value} (hr : Room wr G tot) (hx : Below wr.heap.size wr wx) (hG : G < wr.heap.size) (ho : o + news.length ≤ tot) :
    Room (wx.setCells G o news) G tot ∧ (∀ q, q < o → (wx.setCells G o news).cell? ⟨G, q, none⟩ = wr.cell? ⟨G, q, none⟩) ∧ (∀ j (hj : j < news.length), (wx.setCells G o news).cell? ⟨G, o + j, none⟩ = some news[j]) ∧ Below G wr (wx.setCells G o news) := by
  have old : ∀ q, wx.cell? ⟨G, q, none⟩ = wr.cell? ⟨G, q, none⟩ := fun q => hx.cell (p := ⟨G, q, none⟩) hG
  have oldf : ∀ q, wx.frozen? ⟨G, q, none⟩ = wr.frozen? ⟨G, q, none⟩ := fun q => hx.frozen (p := ⟨G, q, none⟩) hG
  refine ⟨⟨fun q hq => ?_, fun q => ?_⟩, fun q hq => ?_, fun j hj => ?_, ?_⟩
  · exact World.isSome_setCells _ _ _ _ _ (by rw [old]; exact hr.cell q hq)
  · rw [World.frozen?_setCells, oldf]
    exact hr.free q
  · rw [World.cell?_setCells_out _ _ _ _ _ (fun _ _ => .inl hq), old]
  · exact World.cell?_setCells_in _ _ _ _ (fun j hj => by rw [old]; exact hr.cell _ (by omega)) j hj
  · exact below_setCells (Nat.le_refl _) _ _ _ (hx.mono (by omega))

/-- A named writer: a stretch of the position. -/
def NamedAt (w : World) (N L i : Nat) : Prop := ∃ st en : Nat, st ≤ en ∧ en ≤ L ∧ w.cell? ⟨N, i * 3, none⟩ = some (.int .i64 st) ∧ w.cell? ⟨N, i * 3 + 1, none⟩ = some (.int .i64 en) ∧ w.cell? ⟨N, i * 3 + 2, none⟩ = some (.bool false)
/-- A waypoint whose slot is none or one of k. -/
def WayAt (w : World) (A k i : Nat) : Prop := ∃ (e t s n : Int) (x y : Bool), LastWay w A i e t s n x y ∧ -1 ≤ s ∧ s < k

theorem NamedAt.keep {w w' : World} {N L i : Nat} (h : NamedAt w N L i) (hc : ∀ q, q < i * 3 + 3 → w'.cell? ⟨N, q, none⟩ = w.cell? ⟨N, q, none⟩) : NamedAt w' N L i := by
  obtain ⟨st, en, h1, h2, c0, c1, c2⟩ := h
  exact ⟨st, en, h1, h2, (hc _ (by omega)).trans c0, (hc _ (by omega)).trans c1, (hc _ (by omega)).trans c2⟩
theorem WayAt.keep {w w' : World} {A k i : Nat} (h : WayAt w A k i) (hc : ∀ q, q < i * 6 + 6 → w'.cell? ⟨A, q, none⟩ = w.cell? ⟨A, q, none⟩) : WayAt w' A k i := by
  obtain ⟨e, t, s, n, x, y, l, h1, h2⟩ := h
  exact ⟨e, t, s, n, x, y, ⟨(hc _ (by omega)).trans l.c0, (hc _ (by omega)).trans l.c1, (hc _ (by omega)).trans l.c2, (hc _ (by omega)).trans l.c3, (hc _ (by omega)).trans l.c4, (hc _ (by omega)).trans l.c5⟩, h1, h2⟩

theorem named_step {wr wx : World} {N L k j : Nat} (st en : Nat) (hr : Room wr N (k * 3)) (hx : Below wr.heap.size wr wx) (hN : N < wr.heap.size) (hj : j < k) (hat : ∀ i, i < j → NamedAt wr N L i) (h1 : st ≤ en) (h2 : en ≤ L) :
    Room (wx.setCells N (j * 3) [.int .i64 st, .int .i64 en, .bool false]) N (k * 3) ∧ Below N wr (wx.setCells N (j * 3) [.int .i64 st, .int .i64 en, .bool false]) ∧ ∀ i, i < j + 1 → NamedAt (wx.setCells N (j * 3) [.int .i64 st, .int .i64 en, .bool false]) N L i := by
  obtain ⟨f1, f2, f3, f4⟩ := fill_step (news := [.int .i64 st, .int .i64 en, .bool false]) (o := j * 3) hr hx hN (by simp; omega)
  refine ⟨f1, f4, fun i hi => ?_⟩
  by_cases hij : i = j
  · subst hij
    have g0 := f3 0 (by simp)
    have g1 := f3 1 (by simp)
    have g2 := f3 2 (by simp)
    refine ⟨st, en, h1, h2, ?_, ?_, ?_⟩
    · simpa using g0
    · simpa using g1
    · simpa using g2
  · exact (hat i (by omega)).keep fun q hq => f2 q (by omega)

theorem way_step {wr wx : World} {A k m j : Nat} (e t s n : Int) (hr : Room wr A (m * 6)) (hx : Below wr.heap.size wr wx) (hN : A < wr.heap.size) (hj : j < m) (hat : ∀ i, i < j → WayAt wr A k i) (h1 : -1 ≤ s) (h2 : s < k) :
    Room (wx.setCells A (j * 6) [.int .i64 e, .int .i64 t, .int .i64 s, .int .u64 n, .bool false, .bool false]) A (m * 6) ∧ Below A wr (wx.setCells A (j * 6) [.int .i64 e, .int .i64 t, .int .i64 s, .int .u64 n, .bool false, .bool false]) ∧ ∀ i, i < j + 1 → WayAt (wx.setCells A (j * 6) [.int .i64 e, .int .i64 t, .int .i64 s, .int .u64 n, .bool false, .bool false]) A k i := by
  obtain ⟨f1, f2, f3, f4⟩ := fill_step (news := [.int .i64 e, .int .i64 t, .int .i64 s, .int .u64 n, .bool false, .bool false]) (o := j * 6) hr hx hN (by simp; omega)
  refine ⟨f1, f4, fun i hi => ?_⟩
  by_cases hij : i = j
  · subst hij
    have g0 := f3 0 (by simp)
    have g1 := f3 1 (by simp)
    have g2 := f3 2 (by simp)
    have g3 := f3 3 (by simp)
    have g4 := f3 4 (by simp)
    have g5 := f3 5 (by simp)
    refine ⟨e, t, s, n, false, false, ⟨?_, ?_, ?_, ?_, ?_, ?_⟩, h1, h2⟩
    · simpa using g0
    · simpa using g1
    · simpa using g2
    · simpa using g3
    · simpa using g4
    · simpa using g5
  · exact (hat i (by omega)).keep fun q hq => f2 q (by omega)
end Go.Proofs.Ybulkedq
