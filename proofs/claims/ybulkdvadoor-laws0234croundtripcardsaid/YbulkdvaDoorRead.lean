/-
  THE WALK OF 'readHeader' AT A MESSAGE THAT BEGINS WITH A HEADER: it gives the header back, and what follows it.
-/
import Derived.Test.YbulkdvaDoorDec
import Derived.Test.YbulkdvaDoorHdr
import Derived.RegionTactic
namespace Go.Proofs.YbulkdvaDoor
open Go.RowKit

theorem uv_pos (x : Nat) : 0 < (uv x).length := by
  unfold uv uvF
  split <;> simp
/-- What is known of the world while the two fields are read: q0, q1, q2 lie in the header's block. -/
structure Mid (w wx : World) (q0 q1 q2 : Value) : Prop where
  size : wx.heap.size = w.heap.size + 3
  below : Below w.heap.size w wx
  r0 : wx.cell? ⟨w.heap.size, 0, none⟩ = some (.int .u64 0)
  r1 : wx.cell? ⟨w.heap.size, 1, none⟩ = some (.string ⟨#[]⟩)
  r2 : wx.cell? ⟨w.heap.size, 2, none⟩ = some (.string ⟨#[]⟩)
  f0 : ∀ o, wx.frozen? ⟨w.heap.size, o, none⟩ = false
  h0 : wx.cell? ⟨w.heap.size + 1, 0, none⟩ = some q0
  h1 : wx.cell? ⟨w.heap.size + 1, 1, none⟩ = some q1
  h2 : wx.cell? ⟨w.heap.size + 1, 2, none⟩ = some q2
  f1 : ∀ o, wx.frozen? ⟨w.heap.size + 1, o, none⟩ = false
  p0 : wx.cell? ⟨w.heap.size + 2, 0, none⟩ = some (.pointer (some ⟨w.heap.size + 1, 1, none⟩))
  p1 : wx.cell? ⟨w.heap.size + 2, 1, none⟩ = some (.pointer (some ⟨w.heap.size + 1, 2, none⟩))

theorem mid_start (w : World) (q : Value) : Mid w ((((w.alloc (.cells #[.int .u64 0, .string ⟨#[]⟩, .string ⟨#[]⟩] 26)).alloc (.cells #[q, .string ⟨#[]⟩, .string ⟨#[]⟩] 26)).alloc (.cells #[.pointer (some ⟨w.heap.size + 1, 1, none⟩), .pointer (some ⟨w.heap.size + 1, 2, none⟩)] 37)).drew) q (.string ⟨#[]⟩) (.string ⟨#[]⟩) := by
  refine ⟨by simp, ((((Below.refl _ w).alloc (Nat.le_refl _) _).alloc (by simp) _).alloc (by simp; omega) _).drew, ?_, ?_, ?_, ?_, ?_, ?_, ?_, ?_, ?_, ?_⟩
  all_goals simp [go_sem]

theorem conv_at (w : World) (g off len cap : Nat) (zs : List Int) (hl : zs.length = len) (hc : ∀ j, j < len → w.cell? ⟨g, off + j, none⟩ = some (.int .u8 (zs.getD j 0))) :
    (convert 23 9 (.slice (some ⟨g, off, none⟩) len cap)).run Ybad.prog w = .ok (.string (strOfNums zs)) w :=
  run_convert_bytes_arg w 23 5 Ybad.underlying23 Ybad.underlying5 g off len cap zs hl hc 9 Ybad.underlying9
theorem str_nums (s : ByteArray) : strOfNums (nums s) = s := by
  apply ByteArray.ext
  apply Array.ext'
  simp [strOfNums, nums, Function.comp_def]

theorem Mid.store {w wx : World} {q0 q1 q2 : Value} (M : Mid w wx q0 q1 q2) (u : Value) : Mid w (wx.setCell ⟨w.heap.size + 1, 1, none⟩ u) q0 u q2 := by
  obtain ⟨hsz, hB, r0, r1, r2, f0, h0, h1, h2, f1, p0, p1⟩ := M
  refine ⟨by simpa [World.setCell] using hsz, hB.setCell (by show w.heap.size ≤ w.heap.size + 1; omega) _, ?_, ?_, ?_, fun o => (World.frozen?_setCell _ _ _ _).trans (f0 o), ?_, World.cell?_setCell_same _ _ _ h1, ?_, fun o => (World.frozen?_setCell _ _ _ _).trans (f1 o), ?_, ?_⟩
  · exact (World.cell?_setCell_other _ _ _ _ (by simp)).trans r0
  · exact (World.cell?_setCell_other _ _ _ _ (by simp)).trans r1
  · exact (World.cell?_setCell_other _ _ _ _ (by simp)).trans r2
  · exact (World.cell?_setCell_other _ _ _ _ (by simp)).trans h0
  · exact (World.cell?_setCell_other _ _ _ _ (by simp)).trans h2
  · exact (World.cell?_setCell_other _ _ _ _ (by simp)).trans p0
  · exact (World.cell?_setCell_other _ _ _ _ (by simp)).trans p1
theorem Mid.store2 {w wx : World} {q0 q1 q2 : Value} (M : Mid w wx q0 q1 q2) (u : Value) : Mid w (wx.setCell ⟨w.heap.size + 1, 2, none⟩ u) q0 q1 u := by
  obtain ⟨hsz, hB, r0, r1, r2, f0, h0, h1, h2, f1, p0, p1⟩ := M
  refine ⟨by simpa [World.setCell] using hsz, hB.setCell (by show w.heap.size ≤ w.heap.size + 1; omega) _, ?_, ?_, ?_, fun o => (World.frozen?_setCell _ _ _ _).trans (f0 o), ?_, ?_, World.cell?_setCell_same _ _ _ h2, fun o => (World.frozen?_setCell _ _ _ _).trans (f1 o), ?_, ?_⟩
  · exact (World.cell?_setCell_other _ _ _ _ (by simp)).trans r0
  · exact (World.cell?_setCell_other _ _ _ _ (by simp)).trans r1
  · exact (World.cell?_setCell_other _ _ _ _ (by simp)).trans r2
  · exact (World.cell?_setCell_other _ _ _ _ (by simp)).trans h0
  · exact (World.cell?_setCell_other _ _ _ _ (by simp)).trans h1
  · exact (World.cell?_setCell_other _ _ _ _ (by simp)).trans p0
  · exact (World.cell?_setCell_other _ _ _ _ (by simp)).trans p1

theorem getD_drop (l : List Int) (k j : Nat) : (l.drop k).getD j 0 = l.getD (k + j) 0 := by simp [List.getD, List.getElem?_drop]
/-- The pieces of the message, cut at k. -/
theorem drop_at {l a b : List Int} {k : Nat} (h : l = a ++ b) (hk : a.length = k) : l.drop k = b := by rw [h, ← hk]; simp
theorem piece {l a b : List Int} {k j : Nat} (h : l.drop k = a ++ b) (hj : j < a.length) : l.getD (k + j) 0 = a.getD j 0 := by
  rw [← getD_drop, h]
  simp [List.getD, List.getElem?_append_left hj]

theorem wp_world {P : Program} {c : Code} {Q : Exit → Act → World → Prop} {a : Act} {W : World} (h : ∀ wx, wx = W → c.wp P Q a wx) : c.wp P Q a W := h W rfl

set_option maxRecDepth 10000 in
set_option maxHeartbeats 800000 in
theorem read_any (g n cap : Nat) (seq : Nat) (m er : ByteArray) (body l : List Int) (w : World) (hseq : seq < 18446744073709551616) (hm : m.size ≤ 1024) (he : er.size ≤ 1024) (hb : body.length ≤ 1024)
    (hl : l = hdr seq m er ++ body) (hn : l.length = n) (hnc : n ≤ cap) (hcap : cap ≤ 9223372036854775807) (hg : g < w.heap.size)
    (hc : ∀ j, j < n → w.cell? ⟨g, j, none⟩ = some (.int .u8 (l.getD j 0))) :
    Calls Ybad.prog 5 #[.slice (some ⟨g, 0, none⟩) n cap] w fun e w' => ∃ o c, e = .returned (.tuple #[.agg #[.int .u64 seq, .string m, .string er], .slice (some ⟨g, o, none⟩) body.length c, .nilIface]) ∧ Below w.heap.size w w' ∧ (∀ j, j < body.length → w'.cell? ⟨g, o + j, none⟩ = some (.int .u8 (body.getD j 0))) := by
  have u1 := uv_len seq
  have u2 := uv_len m.size
  have u3 := uv_len er.size
  have hl1 : l = uv seq ++ (uv m.size ++ (nums m ++ (uv er.size ++ (nums er ++ body)))) := by simp [hl, hdr]
  have hn1 : n = (uv seq).length + ((uv m.size).length + (m.size + ((uv er.size).length + (er.size + body.length)))) := by rw [← hn, hl1]; simp [nums_len]
  have p1 := uv_pos seq
  have p2 := uv_pos m.size
  have p3 := uv_pos er.size
  generalize hk1 : (uv seq).length = k1 at *
  generalize hk2 : (uv m.size).length = k2 at *
  generalize hk3 : (uv er.size).length = k3 at *
  have HL : Hid (l = uv seq ++ (uv m.size ++ (nums m ++ (uv er.size ++ (nums er ++ body))))) := hl1
  have HC : Hid (∀ j, j < n → w.cell? ⟨g, j, none⟩ = some (.int .u8 (l.getD j 0))) := hc
  have K1 : Hid ((uv seq).length = k1) := hk1
  have K2 : Hid ((uv m.size).length = k2) := hk2
  have K3 : Hid ((uv er.size).length = k3) := hk3
  have N1 : Hid (n = k1 + (k2 + (m.size + (k3 + (er.size + body.length))))) := hn1
  have N0 : Hid (l.length = n) := hn
  have hle : k1 + k2 + m.size + k3 + er.size ≤ n := by omega
  have hn9 : n ≤ 10000 := by omega
  clear hl hl1 hc hk1 hk2 hk3 hn1 hn
  go_enter Ybad.func5, Ybad.ntmps5
  go_wp2_with fail
  refine (dec_any g 0 n cap l _ seq _ hseq HL.out N0.out (by omega) (fun j hj => ?_)).mono ?_
  · rw [Nat.zero_add]
    exact (World.cell?_alloc_past _ _ _ (by simp; omega)).trans ((World.cell?_alloc_past _ _ _ (by exact hg)).trans (HC.out j hj))
  rintro e w' ⟨rfl, rfl⟩
  rw [K1.out]
  have hk0 : ¬ (k1 : Int) ≤ 0 := by omega
  have hcne : ¬ cap = k1 := by omega
  have hcne2 : ¬ k1 = 0 := by omega
  go_wp2_with fail
  go_region
  go_wp2_with fail
  refine wp_world ?_
  intro wx hwx
  have M : Mid w wx (.int .u64 seq) (.string ⟨#[]⟩) (.string ⟨#[]⟩) := by rw [hwx]; exact mid_start w _
  clear hwx
  have HM : Hid (Mid w wx (.int .u64 seq) (.string ⟨#[]⟩) (.string ⟨#[]⟩)) := M
  obtain ⟨hsz, hB, r0, r1, r2, f0, h0, h1, h2, f1, p0, p1⟩ := M
  have hxg : Hid (∀ o, wx.cell? ⟨g, o, none⟩ = w.cell? ⟨g, o, none⟩) := fun o => hB.cell (p := ⟨g, o, none⟩) hg
  have D1 : Hid (l.drop k1 = uv m.size ++ (nums m ++ (uv er.size ++ (nums er ++ body)))) := drop_at HL.out K1.out
  have D2 : Hid (l.drop (k1 + k2) = nums m ++ (uv er.size ++ (nums er ++ body))) := by
    have := drop_at D1.out K2.out
    rw [List.drop_drop] at this
    exact this
  have D3 : Hid (l.drop (k1 + k2 + m.size) = uv er.size ++ (nums er ++ body)) := by
    have := drop_at D2.out (nums_len m)
    rw [List.drop_drop] at this
    exact this
  have D4 : Hid (l.drop (k1 + k2 + m.size + k3) = nums er ++ body) := by
    have := drop_at D3.out K3.out
    rw [List.drop_drop] at this
    exact this
  have D5 : Hid (l.drop (k1 + k2 + m.size + k3 + er.size) = body) := by
    have := drop_at D4.out (nums_len er)
    rw [List.drop_drop] at this
    exact this
  refine wp_loop_rounds 3 ?_
  rw [rounds_succ]
  go_wp2_with fail
  refine (dec_any g k1 (n - k1) (cap - k1) (l.drop k1) _ m.size _ (by omega) D1.out (by rw [List.length_drop, N0.out]) (by omega) (fun j hj => ?_)).mono ?_
  · rw [hxg.out, HC.out _ (by omega), getD_drop]
  rintro e wx ⟨rfl, rfl⟩
  rw [K2.out]
  have hcv : ∀ c, (convert 23 9 (.slice (some ⟨g, k1 + k2, none⟩) m.size c)).run Ybad.prog wx = .ok (.string m) wx := fun c => by
    rw [conv_at wx g (k1 + k2) m.size c (nums m) (nums_len m) (fun j hj => by rw [hxg.out, HC.out _ (by omega), piece D2.out (by rw [nums_len]; exact hj)]), str_nums]
  have hk0' : ¬ (k2 : Int) ≤ 0 := by omega
  have hcc1 : ¬ cap - k1 = k2 := by omega
  have hcc2 : ¬ cap - k1 = k2 + m.size := by omega
  have ht1 : (m.size : Int) ≤ ((n - k1 : Nat) : Int) - (k2 : Int) := by omega
  go_wp2_with fail
  rw [rounds_succ]
  refine wp_world ?_
  intro wy hwy
  have MY : Mid w wy (.int .u64 seq) (.string m) (.string ⟨#[]⟩) := by rw [hwy]; exact HM.out.store _
  have hyg : Hid (∀ o, wy.cell? ⟨g, o, none⟩ = w.cell? ⟨g, o, none⟩) := fun o => MY.below.cell (p := ⟨g, o, none⟩) hg
  have HMY : Hid (Mid w wy (.int .u64 seq) (.string m) (.string ⟨#[]⟩)) := MY
  clear hwy hcv hsz hB r0 r1 r2 f0 h0 h1 h2 f1 p0 p1 HM hxg
  obtain ⟨hsz, hB, r0, r1, r2, f0, h0, h1, h2, f1, p0, p1⟩ := MY
  have D3' : Hid (l.drop (k1 + (k2 + m.size)) = uv er.size ++ (nums er ++ body)) := by rw [← Nat.add_assoc]; exact D3.out
  have D4' : Hid (l.drop (k1 + (k2 + m.size) + k3) = nums er ++ body) := by rw [← Nat.add_assoc k1]; exact D4.out
  have D5' : Hid (l.drop (k1 + (k2 + m.size) + (k3 + er.size)) = body) := by rw [← Nat.add_assoc k1, ← Nat.add_assoc _ k3]; exact D5.out
  go_wp2_with fail
  refine (dec_any g (k1 + (k2 + m.size)) (n - k1 - (k2 + m.size)) (cap - k1 - (k2 + m.size)) (l.drop (k1 + (k2 + m.size))) _ er.size _ (by omega) D3'.out (by rw [List.length_drop, N0.out]; omega) (by omega) (fun j hj => ?_)).mono ?_
  · rw [hyg.out, HC.out _ (by omega), getD_drop]
  rintro e wy ⟨rfl, rfl⟩
  rw [K3.out]
  have hcv : ∀ c, (convert 23 9 (.slice (some ⟨g, k1 + (k2 + m.size) + k3, none⟩) er.size c)).run Ybad.prog wy = .ok (.string er) wy := fun c => by
    rw [conv_at wy g (k1 + (k2 + m.size) + k3) er.size c (nums er) (nums_len er) (fun j hj => by rw [hyg.out, HC.out _ (by omega), piece D4'.out (by rw [nums_len]; exact hj)]), str_nums]
  have hcv0 : er.size = 0 → ∀ c, (convert 23 9 (.slice (some ⟨g, k1 + (k2 + m.size), none⟩) 0 c)).run Ybad.prog wy = .ok (.string er) wy := fun h0 c => by
    rw [conv_at wy g (k1 + (k2 + m.size)) 0 c (nums er) (by rw [nums_len]; exact h0) (fun j hj => by omega), str_nums]
  have hk0'' : ¬ (k3 : Int) ≤ 0 := by omega
  have ht2 : (er.size : Int) ≤ ((n - k1 - (k2 + m.size) : Nat) : Int) - (k3 : Int) := by omega
  have hbl : n - k1 - (k2 + m.size) - (k3 + er.size) = body.length := by have := N1.out; omega
  have HBL : Hid (n - k1 - (k2 + m.size) - (k3 + er.size) = body.length) := hbl
  have hcb : ∀ j, j < body.length → w.cell? ⟨g, k1 + (k2 + m.size) + (k3 + er.size) + j, none⟩ = some (.int .u8 (body.getD j 0)) := fun j hj => by
    rw [HC.out _ (by omega)]
    congr 2
    rw [← getD_drop, D5'.out]
  have HCB : Hid (∀ j, j < body.length → w.cell? ⟨g, k1 + (k2 + m.size) + (k3 + er.size) + j, none⟩ = some (.int .u8 (body.getD j 0))) := hcb
  clear hbl hcb
  have HZ : Hid (∀ (v0 v1 v2 v3 : Value), Below w.heap.size w ((((wy.setCell ⟨w.heap.size + 1, 2, none⟩ v0).setCell ⟨w.heap.size, 0, none⟩ v1).setCell ⟨w.heap.size, 1, none⟩ v2).setCell ⟨w.heap.size, 2, none⟩ v3)) := fun v0 v1 v2 v3 =>
    (((hB.setCell (by show w.heap.size ≤ w.heap.size + 1; omega) _).setCell (Nat.le_refl _) _).setCell (Nat.le_refl _) _).setCell (Nat.le_refl _) _
  by_cases hq1 : cap - k1 - (k2 + m.size) = k3
  · have he0 : er.size = 0 := by omega
    have hbz : body.length = 0 := by have := HBL.out; omega
    have hcv1 := hcv0 he0
    clear hcv hcv0
    go_wp2_with fail
    rw [rounds_succ]
    go_wp2_with fail
    refine bodyPost_ret (v := .tuple #[.agg #[.int .u64 seq, .string m, .string er], .slice (some ⟨g, k1 + (k2 + m.size), none⟩) (n - k1 - (k2 + m.size) - k3) 0, .nilIface]) (by simp [results, Ybad.results5, go_sem, r0, r1, r2]) rfl ⟨k1 + (k2 + m.size), 0, ?_, HZ.out _ _ _ _, fun j hj => by omega⟩
    rw [← HBL.out, he0, Nat.add_zero]
  · clear hcv0
    by_cases hq2 : cap - k1 - (k2 + m.size) = k3 + er.size
    · have hbz : body.length = 0 := by have := HBL.out; omega
      have he1 : ¬ er.size = 0 := by omega
      go_wp2_with fail
      rw [rounds_succ]
      go_wp2_with fail
      refine bodyPost_ret (v := .tuple #[.agg #[.int .u64 seq, .string m, .string er], .slice (some ⟨g, k1 + (k2 + m.size), none⟩) (n - k1 - (k2 + m.size) - (k3 + er.size)) (k3 + er.size - (k3 + er.size)), .nilIface]) (by simp [results, Ybad.results5, go_sem, r0, r1, r2]) rfl ⟨_, _, by rw [HBL.out], HZ.out _ _ _ _, fun j hj => by omega⟩
    · go_wp2_with fail
      rw [rounds_succ]
      go_wp2_with fail
      refine bodyPost_ret (v := .tuple #[.agg #[.int .u64 seq, .string m, .string er], .slice (some ⟨g, k1 + (k2 + m.size) + (k3 + er.size), none⟩) (n - k1 - (k2 + m.size) - (k3 + er.size)) (cap - k1 - (k2 + m.size) - (k3 + er.size)), .nilIface]) (by simp [results, Ybad.results5, go_sem, r0, r1, r2]) rfl ⟨_, _, by rw [HBL.out], HZ.out _ _ _ _, fun j hj => ?_⟩
      rw [(HZ.out _ _ _ _).cell (p := ⟨g, _, none⟩) hg]
      exact HCB.out j hj
end Go.Proofs.YbulkdvaDoor
