/-
  THE WALKS OF slices.IndexFunc AND slices.DeleteFunc AT A ROW OF STRINGS, the filter's closure handed in.
-/
import Derived.Test.YbulkdyuSmall
import Derived.Lib.SliceRun
namespace Go.Proofs.Ybulkdyu
open Go.RowKit

/-- Strings in a row of cells. -/
def StrRow (w : World) (g : Nat) (ss : List ByteArray) : Prop := ∀ j, j < ss.length → w.cell? ⟨g, j, none⟩ = some (.string (ss.getD j ByteArray.empty))

set_option maxHeartbeats 400000 in
/-- Nothing is to be dropped. -/
theorem idx_none (g n cap : Nat) (ss : List ByteArray) (w : World) (hn : ss.length = n) (hn' : n ≤ 1024) (hsz : ∀ j, (ss.getD j ByteArray.empty).size ≤ 9223372036854775807) (hc : StrRow w g ss)
    (hk : ∀ j, j < n → dropB (ss.getD j ByteArray.empty) = false) :
    Calls Yba.prog 13 #[.slice (some ⟨g, 0, none⟩) n cap, .func (.func 11) #[] #[]] w fun e w' => e = .returned (.int .i64 (-1)) ∧ w' = w := by
  have HC : Hid (StrRow w g ss) := hc
  have HK : Hid (∀ j, j < n → dropB (ss.getD j ByteArray.empty) = false) := hk
  have HZ : Hid (∀ j, (ss.getD j ByteArray.empty).size ≤ 9223372036854775807) := hsz
  have HN : Hid (ss.length = n) := hn
  clear hc hk hsz hn
  go_enter Yba.func13, Yba.ntmps13
  go_wp2
  go_loop [8] (fun i => ∃ q : Nat, q ≤ n ∧ i = .int .i64 q) (fun i => n - (intOf i).toNat)
  case atStart => exact ⟨0, Nat.zero_le _, rfl⟩
  case round =>
    obtain ⟨q, hq, rfl⟩ := hrel
    by_cases hlt : q < n
    · have c := HC.out q (by rw [HN.out]; exact hlt)
      have z := HZ.out q
      have d := HK.out q hlt
      generalize ss.getD q ByteArray.empty = s at c z d
      go_wp2_with (go_at_call 11; refine (drop_any s _ z).mono ?_; rintro e w' ⟨rfl, rfl⟩; rw [d])
      go_round
      case rel => exact ⟨q + 1, by omega, by go_num⟩
      case measure => simp [intOf]; omega
    · go_wp2
      go_ret
      exact ⟨rfl, rfl⟩

set_option maxHeartbeats 400000 in
/-- The first that is to be dropped is the one at k. -/
theorem idx_some (g n cap k : Nat) (ss : List ByteArray) (w : World) (hn : ss.length = n) (hn' : n ≤ 1024) (hsz : ∀ j, (ss.getD j ByteArray.empty).size ≤ 9223372036854775807) (hc : StrRow w g ss)
    (hkn : k < n) (hk : ∀ j, j < k → dropB (ss.getD j ByteArray.empty) = false) (hk1 : dropB (ss.getD k ByteArray.empty) = true) :
    Calls Yba.prog 13 #[.slice (some ⟨g, 0, none⟩) n cap, .func (.func 11) #[] #[]] w fun e w' => e = .returned (.int .i64 k) ∧ w' = w := by
  have HC : Hid (StrRow w g ss) := hc
  have HK : Hid (∀ j, j < k → dropB (ss.getD j ByteArray.empty) = false) := hk
  have HK1 : Hid (dropB (ss.getD k ByteArray.empty) = true) := hk1
  have HZ : Hid (∀ j, (ss.getD j ByteArray.empty).size ≤ 9223372036854775807) := hsz
  have HN : Hid (ss.length = n) := hn
  clear hc hk hsz hn hk1
  go_enter Yba.func13, Yba.ntmps13
  go_wp2
  go_loop [8] (fun i => ∃ q : Nat, q ≤ k ∧ i = .int .i64 q) (fun i => n - (intOf i).toNat)
  case atStart => exact ⟨0, Nat.zero_le _, rfl⟩
  case round =>
    obtain ⟨q, hq, rfl⟩ := hrel
    have hlt : q < n := by omega
    have c := HC.out q (by rw [HN.out]; exact hlt)
    have z := HZ.out q
    by_cases hqk : q < k
    · have d := HK.out q hqk
      generalize ss.getD q ByteArray.empty = s at c z d
      go_wp2_with (go_at_call 11; refine (drop_any s _ z).mono ?_; rintro e w' ⟨rfl, rfl⟩; rw [d])
      go_round
      case rel => exact ⟨q + 1, by omega, by go_num⟩
      case measure => simp [intOf]; omega
    · obtain rfl : q = k := by omega
      have d := HK1.out
      clear HK1
      generalize ss.getD q ByteArray.empty = s at c z d
      go_wp2_with (go_at_call 11; refine (drop_any s _ z).mono ?_; rintro e w' ⟨rfl, rfl⟩; rw [d])
      go_ret
      exact ⟨rfl, rfl⟩

/-- What is kept. -/
def kept (ss : List ByteArray) : List ByteArray := ss.filter fun s => !dropB s

theorem take_snoc {ss : List ByteArray} {q : Nat} (hq : q < ss.length) : ss.take (q + 1) = ss.take q ++ [ss.getD q ByteArray.empty] := by
  have e : ss.getD q ByteArray.empty = ss[q] := by simp [List.getD, List.getElem?_eq_getElem hq]
  rw [e, List.take_add_one, List.getElem?_eq_getElem hq]
  rfl
theorem kept_snoc_keep {ss : List ByteArray} {q : Nat} (hq : q < ss.length) (h : dropB (ss.getD q ByteArray.empty) = false) : kept (ss.take (q + 1)) = kept (ss.take q) ++ [ss.getD q ByteArray.empty] := by
  rw [take_snoc hq]
  generalize ss.getD q ByteArray.empty = s at h
  simp [kept, List.filter_append, h]
theorem kept_snoc_drop {ss : List ByteArray} {q : Nat} (hq : q < ss.length) (h : dropB (ss.getD q ByteArray.empty) = true) : kept (ss.take (q + 1)) = kept (ss.take q) := by
  rw [take_snoc hq]
  generalize ss.getD q ByteArray.empty = s at h
  simp [kept, List.filter_append, h]
theorem kept_len (ss : List ByteArray) (q : Nat) : (kept (ss.take q)).length ≤ q := Nat.le_trans (List.length_filter_le _ _) (List.length_take_le _ _)
theorem kept_all {ss : List ByteArray} {q : Nat} (hq : q ≤ ss.length) (h : ∀ j, j < q → dropB (ss.getD j ByteArray.empty) = false) : kept (ss.take q) = ss.take q := by
  induction q with
  | zero => simp [kept]
  | succ q ih => rw [kept_snoc_keep (by omega) (h q (by omega)), ih (by omega) (fun j hj => h j (by omega)), take_snoc (by omega)]

/-- The row while it is filtered in place: the kept in front, what was not yet looked at behind. -/
structure Mid (w wr : World) (g : Nat) (ss : List ByteArray) (q : Nat) : Prop where
  grown : w.grownBy wr (some g)
  front : StrRow wr g (kept (ss.take q))
  back : ∀ j, q ≤ j → j < ss.length → wr.cell? ⟨g, j, none⟩ = some (.string (ss.getD j ByteArray.empty))
  some : ∀ j, j < ss.length → ∃ v, wr.cell? ⟨g, j, none⟩ = some v
  free : ∀ j, wr.frozen? ⟨g, j, none⟩ = false

theorem Mid.skip {w wr : World} {g : Nat} {ss : List ByteArray} {q : Nat} (h : Mid w wr g ss q) (hq : q < ss.length) (hd : dropB (ss.getD q ByteArray.empty) = true) : Mid w wr g ss (q + 1) :=
  ⟨h.grown, by rw [kept_snoc_drop hq hd]; exact h.front, fun j h1 h2 => h.back j (by omega) h2, h.some, h.free⟩
theorem Mid.put {w wr : World} {g : Nat} {ss : List ByteArray} {q c : Nat} (h : Mid w wr g ss q) (hq : q < ss.length) (hc : (kept (ss.take q)).length = c) (hd : dropB (ss.getD q ByteArray.empty) = false) :
    Mid w (wr.setCell ⟨g, c, none⟩ (.string (ss.getD q ByteArray.empty))) g ss (q + 1) := by
  have hle := kept_len ss q
  have other : ∀ j, j ≠ c → (wr.setCell ⟨g, c, none⟩ (.string (ss.getD q ByteArray.empty))).cell? ⟨g, j, none⟩ = wr.cell? ⟨g, j, none⟩ := fun j hj => World.cell?_setCell_other _ _ _ _ (by intro he; injection he with _ e2; omega)
  refine ⟨⟨h.grown.os, h.grown.tape, h.grown.output, by simpa [World.setCell] using h.grown.size, fun k hk hne => ?_⟩, fun j hj => ?_, fun j h1 h2 => (other j (by omega)).trans (h.back j (by omega) h2), fun j hj => ?_, fun j => (World.frozen?_setCell _ _ _ _).trans (h.free j)⟩
  · rw [Below.heap_setCell _ _ _ _ (fun e => hne (by rw [e]))]
    exact h.grown.block k hk hne
  · rw [kept_snoc_keep hq hd] at hj ⊢
    rw [List.length_append, List.length_singleton, hc] at hj
    by_cases hjc : j = c
    · subst hjc
      obtain ⟨v, hv⟩ := h.some j (by omega)
      rw [World.cell?_setCell_same _ _ _ hv]
      simp [List.getD, hc]
    · rw [other j hjc, h.front j (by omega)]
      simp [List.getD, List.getElem?_append_left (show j < (kept (ss.take q)).length by omega)]
  · obtain ⟨v, hv⟩ := h.some j hj
    exact cell?_setCell_some hv

theorem grown_setCells {w0 : World} {g : Nat} : ∀ (vs : List Value) (o : Nat) (w : World), w0.grownBy w (some g) → w0.grownBy (w.setCells g o vs) (some g)
  | [], _, _, h => h
  | v :: vs, o, w, h => grown_setCells vs (o + 1) (w.setCell ⟨g, o, none⟩ v) ⟨h.os, h.tape, h.output, by simpa [World.setCell] using h.size, fun k hk hne => by
      rw [Below.heap_setCell _ _ _ _ (fun e => hne (by rw [e]))]
      exact h.block k hk hne⟩

theorem zero9 (w : World) : (zeroValue 9).run Yba.prog w = .ok (.string ⟨#[]⟩) w := by kernel_rfl

theorem info9 : (Yba.prog.info? 9).map (fun i => (i.zero, i.size, i.bytes)) = some (some (.string ⟨#[]⟩), 1, 16) := by kernel_rfl

set_option maxHeartbeats 800000 in
theorem del_some (g n cap k : Nat) (ss : List ByteArray) (w : World) (hn : ss.length = n) (hn' : n ≤ 1024) (hnc : n ≤ cap) (hcap : cap ≤ 9223372036854775807) (hsz : ∀ j, (ss.getD j ByteArray.empty).size ≤ 9223372036854775807) (hc : StrRow w g ss) (hfree : ∀ j, w.frozen? ⟨g, j, none⟩ = false)
    (hkn : k < n) (hk : ∀ j, j < k → dropB (ss.getD j ByteArray.empty) = false) (hk1 : dropB (ss.getD k ByteArray.empty) = true) :
    Calls Yba.prog 9 #[.slice (some ⟨g, 0, none⟩) n cap, .func (.func 11) #[] #[]] w fun e w' => e = .returned (.slice (some ⟨g, 0, none⟩) (kept ss).length cap) ∧ w.grownBy w' (some g) ∧ StrRow w' g (kept ss) := by
  have HC : Hid (StrRow w g ss) := hc
  have HK : Hid (∀ j, j < k → dropB (ss.getD j ByteArray.empty) = false) := hk
  have HK1 : Hid (dropB (ss.getD k ByteArray.empty) = true) := hk1
  have HZ : Hid (∀ j, (ss.getD j ByteArray.empty).size ≤ 9223372036854775807) := hsz
  have HN : Hid (ss.length = n) := hn
  have HF : Hid (∀ j, w.frozen? ⟨g, j, none⟩ = false) := hfree
  clear hc hk hsz hn hk1 hfree
  go_enter Yba.func9, Yba.ntmps9
  go_wp2_with fail
  refine (idx_some g n cap k ss _ HN.out hn' HZ.out HC.out hkn HK.out HK1.out).mono ?_
  rintro e w ⟨rfl, rfl⟩
  have hk0 : ((k : Int) == -1) = false := by simp
  go_wp2_with fail
  go_loopw [5, 6] (fun i j wr => ∃ q c : Nat, k < q ∧ q ≤ n ∧ i = .int .i64 c ∧ j = .int .i64 q ∧ (kept (ss.take q)).length = c ∧ c < q ∧ Mid w wr g ss q) (fun _ j _ => n - (intOf j).toNat)
  case atStart =>
    have e1 := kept_all (ss := ss) (q := k) (by have := HN.out; omega) HK.out
    have e2 := kept_snoc_drop (ss := ss) (q := k) (by have := HN.out; omega) HK1.out
    refine ⟨k + 1, k, by omega, by omega, rfl, by go_num, ?_, by omega, ⟨⟨rfl, rfl, rfl, Nat.le_refl _, fun _ _ _ => rfl⟩, ?_, fun j _ h => HC.out j h, fun j h => ⟨_, HC.out j h⟩, HF.out⟩⟩
    · rw [e2, e1, List.length_take, HN.out, Nat.min_eq_left (by omega)]
    · rw [e2, e1]
      intro j hj
      rw [List.length_take, HN.out] at hj
      have hjn : j < ss.length := by have := HN.out; omega
      rw [HC.out j hjn]
      simp [List.getD, List.getElem?_take_of_lt (show j < k by omega)]
  case round =>
    obtain ⟨q, c, hkq, hqn, rfl, rfl, hcl, hcq, hmid⟩ := hrel
    have HM : Hid (Mid w wr g ss q) := hmid
    have HCL : Hid ((kept (ss.take q)).length = c) := hcl
    by_cases hlt : q < n
    · have c0 := hmid.back q (Nat.le_refl _) (by rw [HN.out]; exact hlt)
      obtain ⟨v0, c1⟩ := hmid.some c (by rw [HN.out]; omega)
      have f0 := hmid.free c
      have z := HZ.out q
      clear hmid hcl
      cases d : dropB (ss.getD q ByteArray.empty)
      · have D : Hid (dropB (ss.getD q ByteArray.empty) = false) := d
        obtain ⟨s, hs⟩ : ∃ s, s = ss.getD q ByteArray.empty := ⟨_, rfl⟩
        rw [← hs] at c0 z d
        have HS : Hid (s = ss.getD q ByteArray.empty) := hs
        clear hs
        go_wp2_with (go_at_call 11; refine (drop_any s _ z).mono ?_; rintro e w' ⟨rfl, rfl⟩; rw [d])
        go_roundw
        case rel =>
          refine ⟨q + 1, c + 1, by omega, by omega, by go_num, by go_num, ?_, by omega, ?_⟩
          · rw [kept_snoc_keep (by rw [HN.out]; exact hlt) D.out, List.length_append, HCL.out]; rfl
          · rw [HS.out]
            exact HM.out.put (by rw [HN.out]; exact hlt) HCL.out D.out
        case measure => simp [intOf]; omega
      · have D : Hid (dropB (ss.getD q ByteArray.empty) = true) := d
        obtain ⟨s, hs⟩ : ∃ s, s = ss.getD q ByteArray.empty := ⟨_, rfl⟩
        rw [← hs] at c0 z d
        clear hs
        go_wp2_with (go_at_call 11; refine (drop_any s _ z).mono ?_; rintro e w' ⟨rfl, rfl⟩; rw [d])
        go_roundw
        case rel =>
          refine ⟨q + 1, c, by omega, by omega, rfl, by go_num, ?_, by omega, HM.out.skip (by rw [HN.out]; exact hlt) D.out⟩
          rw [kept_snoc_drop (by rw [HN.out]; exact hlt) D.out, HCL.out]
        case measure => simp [intOf]; omega
    · obtain rfl : q = n := by omega
      have hfull : ss.take q = ss := by rw [← HN.out, List.take_length]
      rw [hfull] at hcl
      have HKL : Hid ((kept ss).length = c) := hcl
      have HFR : Hid (StrRow wr g (kept ss)) := by have := hmid.front; rwa [hfull] at this
      clear hmid hcl hfull
      have hccne : ¬ cap = c := by omega
      have hclr := Lib.run_clear_slice (P := Yba.prog) wr 23 9 0 (.string ⟨#[]⟩) Yba.underlying23 zero9 rfl rfl g c (q - c) (cap - c) (by omega)
        (fun j hj => by obtain ⟨v, hv⟩ := HM.out.some (c + j) (by rw [HN.out]; omega); rw [hv]; rfl) (fun j hj => HM.out.free (c + j))
      have hz : c ≤ cap := by omega
      go_wp2_with fail
      go_ret
      refine ⟨by rw [HKL.out]; rfl, grown_setCells _ _ _ HM.out.grown, fun j hj => ?_⟩
      rw [World.cell?_setCells_out _ _ _ _ _ (fun _ _ => .inl (by rw [HKL.out] at hj; exact hj))]
      exact HFR.out j hj

set_option maxHeartbeats 400000 in
theorem del_none (g n cap : Nat) (ss : List ByteArray) (w : World) (hn : ss.length = n) (hn' : n ≤ 1024) (hsz : ∀ j, (ss.getD j ByteArray.empty).size ≤ 9223372036854775807) (hc : StrRow w g ss)
    (hk : ∀ j, j < n → dropB (ss.getD j ByteArray.empty) = false) :
    Calls Yba.prog 9 #[.slice (some ⟨g, 0, none⟩) n cap, .func (.func 11) #[] #[]] w fun e w' => e = .returned (.slice (some ⟨g, 0, none⟩) n cap) ∧ w' = w := by
  go_enter Yba.func9, Yba.ntmps9
  go_wp2_with fail
  refine (idx_none g n cap ss _ hn hn' hsz hc hk).mono ?_
  rintro e w ⟨rfl, rfl⟩
  clear hk hc hsz hn
  go_wp2
  go_ret
  exact ⟨rfl, rfl⟩

/-- Where the first is that is to be dropped. -/
theorem first_drop (ss : List ByteArray) : (∀ j, j < ss.length → dropB (ss.getD j ByteArray.empty) = false) ∨ ∃ k, k < ss.length ∧ (∀ j, j < k → dropB (ss.getD j ByteArray.empty) = false) ∧ dropB (ss.getD k ByteArray.empty) = true := by
  have key : ∀ q, q ≤ ss.length → (∀ j, j < q → dropB (ss.getD j ByteArray.empty) = false) ∨ ∃ k, k < ss.length ∧ (∀ j, j < k → dropB (ss.getD j ByteArray.empty) = false) ∧ dropB (ss.getD k ByteArray.empty) = true := by
    intro q
    induction q with
    | zero => exact fun _ => .inl fun j hj => absurd hj (by omega)
    | succ q ih =>
      intro hq
      rcases ih (by omega) with h | h
      · cases d : dropB (ss.getD q ByteArray.empty)
        · left
          intro j hj
          by_cases hjq : j = q
          · rw [hjq]; exact d
          · exact h j (by omega)
        · exact .inr ⟨q, by omega, h, d⟩
      · exact .inr h
  exact key ss.length (Nat.le_refl _)

/-- DeleteFunc at a row of the call's own. -/
theorem del_any (g n cap : Nat) (ss : List ByteArray) (w : World) (hn : ss.length = n) (hn' : n ≤ 1024) (hnc : n ≤ cap) (hcap : cap ≤ 9223372036854775807) (hsz : ∀ j, (ss.getD j ByteArray.empty).size ≤ 9223372036854775807) (hc : StrRow w g ss) (hfree : ∀ j, w.frozen? ⟨g, j, none⟩ = false) :
    Calls Yba.prog 9 #[.slice (some ⟨g, 0, none⟩) n cap, .func (.func 11) #[] #[]] w fun e w' => e = .returned (.slice (some ⟨g, 0, none⟩) (kept ss).length cap) ∧ w.grownBy w' (some g) ∧ StrRow w' g (kept ss) := by
  rcases first_drop ss with h | ⟨k, hk, h1, h2⟩
  · have e : kept ss = ss := by
      have := kept_all (ss := ss) (q := ss.length) (Nat.le_refl _) h
      rwa [List.take_length] at this
    refine (del_none g n cap ss w hn hn' hsz hc (by rw [← hn]; exact h)).mono ?_
    rintro e' w' ⟨rfl, rfl⟩
    rw [e, hn]
    exact ⟨rfl, ⟨rfl, rfl, rfl, Nat.le_refl _, fun _ _ _ => rfl⟩, hc⟩
  · exact del_some g n cap k ss w hn hn' hnc hcap hsz hc hfree (by omega) h1 h2

end Go.Proofs.Ybulkdyu
