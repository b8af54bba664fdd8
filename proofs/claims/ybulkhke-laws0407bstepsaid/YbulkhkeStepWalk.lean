/-
  LawS0407BStep, walked.
-/
import Derived.Test.YbulkhkeSlices
namespace Go.Proofs.Ybulkhke
open Go.RowKit

theorem par_new (w : World) (a b c d v : Value) (cnt : Bool) (n : Int) : Par (w.alloc (.cells #[a, b, c, d, .bool cnt, v, .int .i64 n] 27)) w.heap.size cnt v n :=
  ⟨by rw [World.cell?_alloc_at _ _ _ _ rfl]; rfl, by rw [World.cell?_alloc_at _ _ _ _ rfl]; rfl, by rw [World.cell?_alloc_at _ _ _ _ rfl]; rfl, fun o => World.frozen?_alloc_at _ _ _ _ rfl⟩

theorem add0 (g i : Nat) : (⟨g, 0, none⟩ : Addr).add i = ⟨g, i, none⟩ := by unfold Addr.add; split <;> simp_all

/-- The cells of a row of the call's own. -/
theorem own_cells {w : World} {base g cap : Nat} {xs : List Int} (h : w.ownsRow base 3 1 (.slice (some ⟨g, 0, none⟩) xs.length cap) xs.length (ints xs)) (i : Nat) (hi : i < xs.length) : w.cell? ⟨g, i, none⟩ = some (.int .i64 (xs.getD i 0)) := by
  rw [h.cellAt i (by omega)]
  simp [hi]

theorem own_src {w : World} {base : Nat} {v : Value} {xs : List Int} (h : w.ownsRow base 3 1 v xs.length (ints xs)) {ao : Option Addr} {cap : Nat} (hv : v = .slice ao xs.length cap) : Src w ao cap xs := by
  rcases h.2 with ⟨h0, hn⟩ | ⟨g, c', cur, h', _⟩
  · rw [hv] at h0; simp at h0
    exact .inl ⟨h0.1, by simpa using hn, h0.2.2⟩
  · rw [hv] at h'; simp at h'
    obtain ⟨rfl, rfl⟩ := h'
    subst hv
    refine .inr ⟨_, rfl, fun i hi => ?_⟩
    rw [add0 g i]
    exact own_cells h i hi

set_option maxHeartbeats 1000000 in
theorem step_on (started : Int) (a : Option Addr) (cap : Nat) (zs : List Int) (w : World) (hm : zs.length ≤ 1024) (hc : Src w a cap zs) :
    Calls Yba.prog 3 #[.int .i64 started, .bool true, .slice a zs.length cap] w fun e w' => e = .returned (.bool true) ∧ Below w.heap.size w w' := by
  have HC : Hid (Src w a cap zs) := hc
  clear hc
  go_enter Yba.func3, Yba.ntmps3
  go_wp2_with fail
  refine (clone_any _ _ zs _ (by omega) HC.out).mono ?_
  rintro e w1 ⟨v, rfl, hown, hbel⟩
  obtain ⟨ao, cap', rfl⟩ := slice_shape hown
  have hvb : ∀ k, (Value.slice ao zs.length cap').ownBlock = some k → w.heap.size ≤ k ∧ k < w1.heap.size := hown.lt
  have hne : (Value.slice ao zs.length cap').ownBlock ≠ some w1.heap.size := fun h => by have := hvb _ h; omega
  go_wp2_with fail
  refine (seq_on w1.heap.size w.heap.size (.slice ao zs.length cap') started zs _ (par_new _ _ _ _ _ _ _ _) (hown.alloc _) hne (by simp) (by omega) (by have := hbel.size; simp; omega)).mono ?_
  rintro e w2 ⟨rfl, v', hP, hown2, hK, hfr⟩
  have hbel2 : Below w.heap.size w w2 := hK.below (hbel.alloc hbel.size _) (by have := hbel.size; simp; omega) (by rintro i (rfl | h); exact hbel.size; exact (hvb i h).1)
  obtain ⟨g, cap2, rfl⟩ : ∃ g cap2, v' = .slice (some ⟨g, 0, none⟩) (zs.length + 1) cap2 := by
    rcases hown2.2 with ⟨_, h⟩ | ⟨g, cap', _, h, _⟩
    · omega
    · exact ⟨g, cap', h⟩
  obtain ⟨c4, c5, c6, fr⟩ := hP
  have hlast : w2.cell? ⟨g, zs.length, none⟩ = some (.int .i64 0) := by
    rw [hown2.cellAt zs.length (by omega)]; simp
  have hcap2 : zs.length + 1 ≤ cap2 := by
    rcases hown2.2 with ⟨h, _⟩ | ⟨g', c', cur, h, _, _, hnc, _⟩
    · simp at h
    · simp at h; omega
  have H1 : Hid (Src w2 (some ⟨g, 0, none⟩) cap2 zs) := by
    refine .inr ⟨_, rfl, fun i hi => ?_⟩
    rw [add0 g i, hown2.cellAt i (by omega)]
    simp [hi, List.getElem?_append]
  have H2 : Hid (Src w2 a cap zs) := HC.out.below hbel2
  have HB : Hid (Below w.heap.size w w2) := hbel2
  clear hown hbel hvb hne hown2 hK hfr fr hbel2 HC
  go_wp2_with (go_at_call 9; refine (equal_any _ _ _ _ zs _ (by omega) H1.out H2.out).mono ?_; rintro e w3 ⟨rfl, hK3⟩)
  go_ret
  exact ⟨rfl, hK3.below HB.out HB.out.size (fun i h => h.elim)⟩

set_option maxHeartbeats 1000000 in
theorem step_off (started : Int) (a : Option Addr) (cap : Nat) (zs : List Int) (w : World) (hm : zs.length ≤ 1024) (hc : Src w a cap zs) :
    Calls Yba.prog 3 #[.int .i64 started, .bool false, .slice a zs.length cap] w fun e w' => e = .returned (.bool true) ∧ Below w.heap.size w w' := by
  have HC : Hid (Src w a cap zs) := hc
  clear hc
  go_enter Yba.func3, Yba.ntmps3
  go_wp2_with fail
  refine (clone_any _ _ zs _ (by omega) HC.out).mono ?_
  rintro e w1 ⟨v, rfl, hown, hbel⟩
  obtain ⟨ao, cap', rfl⟩ := slice_shape hown
  have hvb : ∀ k, (Value.slice ao zs.length cap').ownBlock = some k → w.heap.size ≤ k ∧ k < w1.heap.size := hown.lt
  have hne : (Value.slice ao zs.length cap').ownBlock ≠ some w1.heap.size := fun h => by have := hvb _ h; omega
  go_wp2_with fail
  refine (seq_off w1.heap.size (.slice ao zs.length cap') started _ (par_new _ _ _ _ _ _ _ _)).mono ?_
  rintro e w2 ⟨rfl, hw2⟩
  have hbel2 : Below w.heap.size w w2 := by rw [hw2]; exact (hbel.alloc hbel.size _).setCell (by exact hbel.size) _
  have hown2 : w2.ownsRow w.heap.size 3 1 (.slice ao zs.length cap') zs.length (ints zs) := by rw [hw2]; exact own_past (hown.alloc _) _ hne _
  have hP : Par w2 w1.heap.size false (.slice ao zs.length cap') (wrap64 (started + 1)) := by
    have h0 := par_new w1 (.slice none 0 0) (.int .i64 0) (.int .i64 0) (.int .i64 0) (.slice ao zs.length cap') false started
    rw [hw2]
    exact ⟨by rw [World.cell?_setCell_other _ _ _ _ (by simp)]; exact h0.c4, by rw [World.cell?_setCell_other _ _ _ _ (by simp)]; exact h0.c5, by rw [World.cell?_setCell_same _ _ _ h0.c6], fun o => by rw [World.frozen?_setCell]; exact h0.fr o⟩
  obtain ⟨c4, c5, c6, fr⟩ := hP
  have H1 : Hid (Src w2 ao cap' zs) := own_src hown2 rfl
  have H2 : Hid (Src w2 a cap zs) := HC.out.below hbel2
  have HB : Hid (Below w.heap.size w w2) := hbel2
  clear hown hbel hvb hne hown2 fr hbel2 HC hw2
  go_wp2_with (go_at_call 9; refine (equal_any _ _ _ _ zs _ (by omega) H1.out H2.out).mono ?_; rintro e w3 ⟨rfl, hK3⟩)
  go_ret
  exact ⟨rfl, hK3.below HB.out HB.out.size (fun i h => h.elim)⟩

theorem step_long (started : Int) (c : Bool) (a : Option Addr) (len cap : Nat) (w : World) (h : 1024 < len) (hm : len ≤ 9223372036854775807) :
    Calls Yba.prog 3 #[.int .i64 started, .bool c, .slice a len cap] w fun e w' => e = .returned (.bool true) ∧ Below w.heap.size w w' := by
  go_enter Yba.func3, Yba.ntmps3
  go_wp2
  go_ret
  exact ⟨rfl, Below.refl _ _⟩

theorem step_at (started : Int) (c : Bool) (a : Option Addr) (len cap : Nat) (zs : List Int) (w : World) (hl : zs.length = len) (hm : len ≤ 1024) (hc : Src w a cap zs) :
    Calls Yba.prog 3 #[.int .i64 started, .bool c, .slice a len cap] w fun e w' => e = .returned (.bool true) ∧ Below w.heap.size w w' := by
  subst hl
  cases c
  · exact step_off started a cap zs w hm hc
  · exact step_on started a cap zs w hm hc
end Go.Proofs.Ybulkhke
