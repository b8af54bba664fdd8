/-
  slices.Clone and slices.Equal at []int: walked.
-/
import Derived.Test.YbulkhkeParser
import Derived.WalkSpells
import Derived.OpenShut
import Derived.RegionTactic
namespace Go.Proofs.Ybulkhke
open Go.RowKit

theorem clone_nil (w : World) :
    Calls Yba.prog 7 #[.slice none 0 0] w fun e w' => e = .returned (.slice none 0 0) ∧ w' = w := by
  have he := fun wx a n c => Lib.run_eql_slice_nil (P := Yba.prog) wx 22 3 a n c 0 0 Yba.underlying22
  go_enter Yba.func7, Yba.ntmps7
  go_wp2
  go_ret
  exact ⟨rfl, rfl⟩

theorem src_cells {x : Addr} {zs : List Int} {w : World} {o : Obj} (hc : ∀ i, i < zs.length → w.cell? (x.add i) = some (.int .i64 (zs.getD i 0))) : ∀ j u, (ints zs)[j]? = some u → (w.alloc o).cell? (x.add j) = some u := by
  intro j u hj
  have hj' : j < zs.length := by have := (List.getElem?_eq_some_iff.1 hj).1; simpa using this
  have h := hc j hj'
  rw [World.cell?_alloc_lt _ _ _ (World.block_lt_of_cell? w _ h), h]
  rw [← hj]
  simp [hj']

set_option maxHeartbeats 400000 in
theorem clone_some (x : Addr) (cap : Nat) (zs : List Int) (w : World) (hlen : zs.length ≤ 5000) (hc : ∀ i, i < zs.length → w.cell? (x.add i) = some (.int .i64 (zs.getD i 0))) :
    Calls Yba.prog 7 #[.slice (some x) zs.length cap] w fun e w' => ∃ v, e = .returned v ∧ w'.ownsRow w.heap.size 3 1 v zs.length (ints zs) ∧ Below w.heap.size w w' := by
  obtain ⟨i0, hi, hz0, hz1, hz2⟩ := info_parts Yba.info3
  have he := fun wx a n c => Lib.run_eql_slice_nil (P := Yba.prog) wx 22 3 a n c 0 0 Yba.underlying22
  go_enter Yba.func7, Yba.ntmps7
  go_wp2_with (at_builtin; refine wpList_append_own _ rfl (.tmp 5) (.tmp 6) 22 rfl w.heap.size 3 i0 (.int .i64 0) 1 8 Yba.underlying22 hi hz0 hz1 hz2 rfl (by decide) (.slice (some ⟨w.heap.size, 0, none⟩) 0 0) 0 [] rfl (World.ownsRow_made w #[] 0 (Nat.le_refl _) (by unfold maxLen; omega) rfl) x zs.length cap (ints zs) rfl (by simp) (src_cells hc) (ints_oneCell _ _) (by unfold maxLen; omega) (by omega) (by simp) ?_)
  intro v' w1 hown hgrow _
  have HW : Hid (w1.ownsRow w.heap.size 3 1 v' zs.length (ints zs) ∧ Below w.heap.size w w1) :=
    ⟨by simpa using hown, ((Below.refl _ w).alloc (Nat.le_refl _) _).grown hgrow (by simp) (fun k h => by simp [Value.ownBlock] at h; omega)⟩
  clear hown hgrow hc he hi hz0 hz1 hz2
  go_wp2
  go_ret
  exact ⟨v', rfl, HW.out⟩

set_option maxHeartbeats 400000 in
theorem equal_cells (b1 off1 cap1 b2 off2 cap2 : Nat) (zs : List Int) (w : World) (hlen : zs.length ≤ 5000) (hp : 0 < zs.length)
    (h1 : ∀ i, i < zs.length → w.cell? ⟨b1, off1 + i, none⟩ = some (.int .i64 (zs.getD i 0))) (h2 : ∀ i, i < zs.length → w.cell? ⟨b2, off2 + i, none⟩ = some (.int .i64 (zs.getD i 0))) :
    Calls Yba.prog 9 #[.slice (some ⟨b1, off1, none⟩) zs.length cap1, .slice (some ⟨b2, off2, none⟩) zs.length cap2] w fun e w' => e = .returned (.bool true) ∧ Kept (fun _ => False) w w' := by
  have hb1 : b1 < w.heap.size := World.block_lt_of_cell? w _ (h1 0 hp)
  have hb2 : b2 < w.heap.size := World.block_lt_of_cell? w _ (h2 0 hp)
  go_enter Yba.func9, Yba.ntmps9
  go_wp2
  go_loopw [13] (fun i wr => ∃ k : Nat, k ≤ zs.length ∧ i = .int .i64 k ∧ Kept (fun _ => False) w wr) (fun i _ => zs.length - (intOf i).toNat)
  case atStart => exact ⟨0, Nat.zero_le _, rfl, Kept.refl _ _⟩
  case round =>
    obtain ⟨k, hk, rfl, hK⟩ := hrel
    by_cases hlt : k < zs.length
    · have g1 := (hK.cell (p := ⟨b1, off1 + k, none⟩) hb1 (by simp)).trans (h1 k hlt)
      have g2 := (hK.cell (p := ⟨b2, off2 + k, none⟩) hb2 (by simp)).trans (h2 k hlt)
      clear h1 h2
      go_wp2
      go_region
      go_wp2
      go_roundw
      case rel => exact ⟨k + 1, by omega, by go_num, hK.drew⟩
      case measure => simp [intOf]; omega
    · clear h1 h2
      go_wp2
      go_ret
      exact ⟨rfl, hK⟩

theorem equal_none (a1 a2 : Option Addr) (cap1 cap2 : Nat) (w : World) :
    Calls Yba.prog 9 #[.slice a1 0 cap1, .slice a2 0 cap2] w fun e w' => e = .returned (.bool true) ∧ w' = w := by
  go_enter Yba.func9, Yba.ntmps9
  go_wp2
  refine wp_loop_rounds 1 ?_
  rw [rounds_succ]
  go_wp2
  go_ret
  exact ⟨rfl, rfl⟩

/-- What is known of a slice that came in: nil, or its elements' cells. -/
def Src (w : World) (a : Option Addr) (cap : Nat) (zs : List Int) : Prop :=
  (a = none ∧ zs = [] ∧ cap = 0) ∨ ∃ x, a = some x ∧ ∀ i, i < zs.length → w.cell? (x.add i) = some (.int .i64 (zs.getD i 0))

theorem Src.below {w w' : World} {a : Option Addr} {cap : Nat} {zs : List Int} (h : Src w a cap zs) (k : Below w.heap.size w w') : Src w' a cap zs := by
  rcases h with h | ⟨x, rfl, hc⟩
  · exact .inl h
  · exact .inr ⟨x, rfl, fun i hi => by rw [k.cell (World.block_lt_of_cell? w _ (hc i hi))]; exact hc i hi⟩

theorem clone_any (a : Option Addr) (cap : Nat) (zs : List Int) (w : World) (hlen : zs.length ≤ 5000) (hc : Src w a cap zs) :
    Calls Yba.prog 7 #[.slice a zs.length cap] w fun e w' => ∃ v, e = .returned v ∧ w'.ownsRow w.heap.size 3 1 v zs.length (ints zs) ∧ Below w.heap.size w w' := by
  rcases hc with ⟨rfl, rfl, rfl⟩ | ⟨x, rfl, hc⟩
  · refine (clone_nil w).mono ?_
    rintro e w' ⟨rfl, rfl⟩
    exact ⟨_, rfl, World.ownsRow_nil _ _ _ _, Below.refl _ _⟩
  · exact clone_some x cap zs w hlen hc

theorem equal_any (a1 a2 : Option Addr) (cap1 cap2 : Nat) (zs : List Int) (w : World) (hlen : zs.length ≤ 5000) (h1 : Src w a1 cap1 zs) (h2 : Src w a2 cap2 zs) :
    Calls Yba.prog 9 #[.slice a1 zs.length cap1, .slice a2 zs.length cap2] w fun e w' => e = .returned (.bool true) ∧ Kept (fun _ => False) w w' := by
  by_cases h0 : zs.length = 0
  · rw [h0]
    refine (equal_none a1 a2 cap1 cap2 w).mono ?_
    rintro e w' ⟨rfl, rfl⟩
    exact ⟨rfl, Kept.refl _ _⟩
  · rcases h1 with ⟨_, rfl, _⟩ | ⟨x1, rfl, h1⟩
    · simp at h0
    rcases h2 with ⟨_, rfl, _⟩ | ⟨x2, rfl, h2⟩
    · simp at h0
    obtain ⟨b1, o1, rfl, h1'⟩ := ints_at h1 (by omega)
    obtain ⟨b2, o2, rfl, h2'⟩ := ints_at h2 (by omega)
    exact equal_cells b1 o1 cap1 b2 o2 cap2 zs w hlen (by omega) h1' h2'
end Go.Proofs.Ybulkhke
