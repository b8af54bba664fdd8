/-
  LawS0407BCount, walked.
-/
import Derived.Test.YbulkhkeCount
import Derived.OpenShut
namespace Go.Proofs.Ybulkhke
open Go.RowKit
set_option linter.unusedVariables false

/-- What is known of the numbers behind i rounds. -/
def Small (xs : List Int) (i : Nat) : Prop := xs.length ≤ i ∧ ∀ x ∈ xs, 0 ≤ x ∧ x ≤ i
theorem small_push {xs : List Int} {i : Nat} (h : Small xs i) : Small (xs ++ [0]) (i + 1) := by
  refine ⟨by have := h.1; simp; omega, fun x hx => ?_⟩
  rcases List.mem_append.1 hx with hx | hx
  · have := h.2 x hx; omega
  · simp at hx; omega
theorem small_bump {xs : List Int} {i : Nat} (h : Small xs i) (j : Nat) (hj : j < xs.length) : Small (xs.set j (xs[j]?.getD 0 + 1)) (i + 1) := by
  refine ⟨by have := h.1; simp; omega, fun x hx => ?_⟩
  rcases List.mem_or_eq_of_mem_set hx with hx | rfl
  · have := h.2 x hx; omega
  · have := h.2 _ (List.getElem_mem hj); simp [hj]; omega
theorem small_at {xs : List Int} {i : Nat} (h : Small xs i) (j : Nat) : 0 ≤ xs[j]?.getD 0 ∧ xs[j]?.getD 0 ≤ i := by
  by_cases hj : j < xs.length
  · have := h.2 _ (List.getElem_mem hj); simp [hj]; omega
  · simp [hj]

set_option maxHeartbeats 2000000 in
theorem count_cells (a : Option Addr) (cap : Nat) (zs : List Int) (w : World) (hm : zs.length ≤ 1024)
    (hc : 0 < zs.length → ∃ b off, a = some ⟨b, off, none⟩ ∧ ∀ i, i < zs.length → w.cell? ⟨b, off + i, none⟩ = some (.int .u8 (zs.getD i 0))) (hr : ∀ i : Nat, 0 ≤ zs[i]?.getD 0 ∧ zs[i]?.getD 0 ≤ 255) :
    Calls Yba.prog 4 #[.slice a zs.length cap] w fun e w' => e = .returned (.bool true) ∧ Below w.heap.size w w' := by
  obtain ⟨i0, hi, hz0, hz1, hz2⟩ := info_parts Yba.info3
  have HC : Hid (0 < zs.length → ∃ b off, a = some ⟨b, off, none⟩ ∧ ∀ i, i < zs.length → w.cell? ⟨b, off + i, none⟩ = some (.int .u8 (zs.getD i 0))) := hc
  clear hc
  go_enter Yba.func4, Yba.ntmps4
  go_wp2
  go_loopw [4, 18] (fun v i wr => ∃ k : Nat, ∃ xs : List Int, ∃ v' : Value, k ≤ zs.length ∧ i = .int .i64 k ∧ Hid (Inv w wr v v' xs) ∧ Hid (Small xs k)) (fun _ i _ => zs.length - (intOf i).toNat)
  case atStart => exact ⟨0, [], _, Nat.zero_le _, rfl, Inv.start w, by simp [Hid, Small]⟩
  case round =>
    rename_i v _
    obtain ⟨k, xs, v', hk, rfl, HI, HS⟩ := hrel
    have hsm := HS.out.1
    have hcur := HI.out.par
    have hbel := HI.out.bel
    have hlt := HI.out.lt
    have hown := HI.out.own
    have hown' := HI.out.own'
    have hv := hown.lt
    have hv' := hown'.lt
    by_cases hkz : k < zs.length
    · obtain ⟨b, off, rfl, hbc⟩ := HC.out (by omega)
      have hcell : wr.cell? ⟨b, off + k, none⟩ = some (.int .u8 (zs[k]?.getD 0)) := by
        rw [hbel.cell (p := ⟨b, off + k, none⟩) (World.block_lt_of_cell? w _ (hbc k hkz))]; simpa [List.getD] using hbc k hkz
      clear hbc
      have hd := hr k
      obtain ⟨c, hcc⟩ : ∃ c, c = zs[k]?.getD 0 := ⟨_, rfl⟩
      rw [← hcc] at hcell hd
      clear hcc hr
      have hA := HI.out.apart
      by_cases hpush : c % 2 = 0 ∨ xs.length = 0
      · obtain ⟨ao, cv, rfl⟩ := slice_shape hown
        have hnp : v'.ownBlock ≠ some w.heap.size := fun h => by have := hv' _ h; omega
        have ew : wrap64 ((xs.length : Int) + 1) = (xs.length : Int) + 1 := IntWalk.wrap64_in _ ⟨by omega, by omega⟩
        have EW : Hid (wrap64 ((xs.length : Int) + 1) = (xs.length : Int) + 1) := ew
        clear ew
        have hpp : (c % 2 == 0) = true ∨ ((c % 2 == 0) = false ∧ ((xs.length : Int) == 0) = true) := by
          by_cases h : c % 2 = 0
          · exact .inl (by simp [h])
          · exact .inr ⟨by simp [h], by have : xs.length = 0 := by omega
                                        simp [this]⟩
        clear hpush
        rcases hpp with he | ⟨he, hx0⟩
        all_goals
          go_wp2_with fail
          refine (seq_on w.heap.size (w.heap.size + 1) v' xs.length xs _ hcur hown' hnp hlt (by omega) (by omega)).mono ?_
          rintro e w1 ⟨rfl, u', hP1, hown1, hK1, hF1⟩
          rw [EW.out] at hP1
          have hown1m : w1.ownsRow (w.heap.size + 1) 3 1 (.slice ao xs.length cv) xs.length (ints xs) := hK1.owns hown (by rintro k hk (rfl | h); have := hv _ hk; omega; exact hA k hk h)
          have hsz1 := hK1.size
          go_wp2_with (at_builtin; refine wpList_append_apart _ rfl (.tmp 36) (.tmp 37) 22 rfl (w.heap.size + 1) 3 i0 (.int .i64 0) 1 8 Yba.underlying22 hi hz0 hz1 hz2 rfl (by decide) (.slice ao xs.length cv) xs.length (ints xs) rfl (hown1m.alloc _) ⟨w1.heap.size, 0, none⟩ 1 1 [.int .i64 0] rfl rfl (one_new0 _) (by intro u hu; simp at hu; subst hu; rfl) (by unfold maxLen; omega) (by omega) (by simp; omega) ?_)
          intro u w2 hown2 hG2 hF2
          have HI2 : Hid (Inv w w2 u u' (xs ++ [0])) := inv_push HI.out hP1 hown1 hK1 hF1 hown2 hG2 hF2
          clear hP1 hown1 hK1 hF1 hown2 hG2 hF2 hown1m hcur hown hown' hv hv' hA hnp hbel HI
          go_wp2
          go_roundw
          case rel => exact ⟨k + 1, xs ++ [0], u', by omega, by go_num, HI2, small_push HS.out⟩
          case measure => simp [intOf]; omega
      · have hc1 : 0 < c % 2 := by omega
        have hx1 : 0 < xs.length := by omega
        have hc2 : (c % 2 == 0) = false := by simp; omega
        have hx2 : ((xs.length : Int) == 0) = false := by simp; intro h; rw [h] at hx1; simp at hx1
        clear hpush
        obtain ⟨g, cv, rfl⟩ := some_shape hown hx1
        obtain ⟨g', cv', rfl⟩ := some_shape hown' hx1
        have hq0 : 0 ≤ c / 2 % (xs.length : Int) := Int.emod_nonneg _ (by omega)
        have hq1 : c / 2 % (xs.length : Int) < (xs.length : Int) := Int.emod_lt_of_pos _ (by omega)
        have hJ : (c / 2 % (xs.length : Int)).toNat < xs.length := by omega
        have hgv := hv g rfl
        have hgv' := hv' g' rfl
        have hgg : g ≠ g' := fun e => hA g rfl (by simp [Value.ownBlock, e])
        have hk1 := own_at hown _ hJ
        have hk2 := own_at hown' _ hJ
        have hf1 := hown.frozenAt (c / 2 % (xs.length : Int)).toNat
        have hf2 := hown'.frozenAt (c / 2 % (xs.length : Int)).toNat
        have hxx := small_at HS.out (c / 2 % (xs.length : Int)).toNat
        have HB : Hid (Small (xs.set (c / 2 % (xs.length : Int)).toNat (xs[(c / 2 % (xs.length : Int)).toNat]?.getD 0 + 1)) (k + 1)) := small_bump HS.out _ hJ
        have HI2 := inv_bump (j := (c / 2 % (xs.length : Int)).toNat) (xs[(c / 2 % (xs.length : Int)).toNat]?.getD 0 + 1) HI.out rfl
        obtain ⟨x, hx⟩ : ∃ x, x = xs[(c / 2 % (xs.length : Int)).toNat]?.getD 0 := ⟨_, rfl⟩
        rw [← hx] at hk1 hk2 hxx HB HI2
        have HI3 : Hid (Inv w ((wr.setCell ⟨g', (c / 2 % (xs.length : Int)).toNat, none⟩ (.int .i64 (x + 1))).setCell ⟨g, (c / 2 % (xs.length : Int)).toNat, none⟩ (.int .i64 (x + 1))) (.slice (some ⟨g, 0, none⟩) xs.length cv) (.slice (some ⟨g', 0, none⟩) xs.length cv') (xs.set (c / 2 % (xs.length : Int)).toNat (x + 1))) := HI2
        have hkm : (wr.setCell ⟨g', (c / 2 % (xs.length : Int)).toNat, none⟩ (.int .i64 (x + 1))).cell? ⟨g, (c / 2 % (xs.length : Int)).toNat, none⟩ = some (.int .i64 x) := by
          rw [World.cell?_setCell_other _ _ _ _ (fun h => hgg (congrArg Addr.block h).symm)]; exact hk1
        clear hx HI2 hown hown' hv hv' hA hbel HI
        go_wp2_with fail
        refine (keep_on _ _ _ _ _ _ x _ hcur hq0 hq1 (by omega) (by omega) (by omega) hk2 hf2).mono ?_
        rintro e w1 ⟨rfl, rfl⟩
        clear hcur
        go_wp2
        go_roundw
        case rel => exact ⟨k + 1, xs.set (c / 2 % (xs.length : Int)).toNat (x + 1), .slice (some ⟨g', 0, none⟩) xs.length cv', by omega, by go_num, HI3, HB⟩
        case measure => simp [intOf]; omega
    · have hv4 := hcur.fr 4
      obtain ⟨ao, cv, rfl⟩ := slice_shape hown
      obtain ⟨ao', cv', rfl⟩ := slice_shape hown'
      obtain ⟨c4, c5, c6, fr⟩ := hcur
      have hKz : Kept (fun k => k = w.heap.size) wr (wr.setCell ⟨w.heap.size, 4, none⟩ (.bool false)) := (Kept.refl (fun k => k = w.heap.size) wr).setCell (p := ⟨w.heap.size, 4, none⟩) rfl _
      have HBz : Hid (Below w.heap.size w (wr.setCell ⟨w.heap.size, 4, none⟩ (.bool false))) := hKz.below hbel hbel.size (by rintro i rfl; omega)
      have HPz : Hid (Par (wr.setCell ⟨w.heap.size, 4, none⟩ (.bool false)) w.heap.size false (.slice ao' xs.length cv') (xs.length : Int)) :=
        ⟨by rw [World.cell?_setCell_same _ _ _ c4], by rw [World.cell?_setCell_other _ _ _ _ (by simp)]; exact c5, by rw [World.cell?_setCell_other _ _ _ _ (by simp)]; exact c6, fun o => by rw [World.frozen?_setCell]; exact fr o⟩
      have HOz : Hid ((wr.setCell ⟨w.heap.size, 4, none⟩ (.bool false)).ownsRow (w.heap.size + 1) 3 1 (.slice ao xs.length cv) xs.length (ints xs)) := hKz.owns hown (fun k hk e => by have := hv k hk; omega)
      have HOz' : Hid ((wr.setCell ⟨w.heap.size, 4, none⟩ (.bool false)).ownsRow (w.heap.size + 1) 3 1 (.slice ao' xs.length cv') xs.length (ints xs)) := hKz.owns hown' (fun k hk e => by have := hv' k hk; omega)
      obtain ⟨wz, hwz⟩ : ∃ wz, wz = wr.setCell ⟨w.heap.size, 4, none⟩ (.bool false) := ⟨_, rfl⟩
      rw [← hwz] at HBz HPz HOz HOz'
      have HWZ : Hid (wz = wr.setCell ⟨w.heap.size, 4, none⟩ (.bool false)) := hwz
      clear hwz hKz fr hown hown' hv hv' hr HI HS
      go_wp2
      rw [← HWZ.out]
      clear hbel hlt hv4 c4 c5 c6 HWZ HC
      go_loop [9] (fun i => ∃ q : Nat, q ≤ xs.length + 2 ∧ i = .int .i64 q) (fun i => xs.length + 2 - (intOf i).toNat)
      case atStart => exact ⟨0, Nat.zero_le _, rfl⟩
      case round =>
        obtain ⟨q, hq, rfl⟩ := hrel
        by_cases hq1 : q < xs.length
        · obtain ⟨g, c1, e1⟩ := some_shape HOz.out (by omega)
          obtain ⟨g', c1', e1'⟩ := some_shape HOz'.out (by omega)
          simp only [Value.slice.injEq, true_and] at e1 e1'
          obtain ⟨rfl, rfl⟩ := e1
          obtain ⟨rfl, rfl⟩ := e1'
          have hk1 := own_at HOz.out q hq1
          have hk2 := own_at HOz'.out q hq1
          obtain ⟨x, hx⟩ : ∃ x, x = xs[q]?.getD 0 := ⟨_, rfl⟩
          rw [← hx] at hk1 hk2
          clear hx
          go_wp2_with (go_at_call 11; refine (size_in _ _ _ _ _ _ x _ HPz.out hq1 (by omega) hk2).mono ?_; rintro e w1 ⟨rfl, rfl⟩)
          go_round
          case rel => exact ⟨q + 1, by omega, by go_num⟩
          case measure => simp [intOf]; omega
        · by_cases hq2 : q < xs.length + 2
          · go_wp2_with (go_at_call 11; refine (size_out _ _ _ _ _ _ _ HPz.out (by omega) (by omega)).mono ?_; rintro e w1 ⟨rfl, rfl⟩)
            go_round
            case rel => exact ⟨q + 1, by omega, by go_num⟩
            case measure => simp [intOf]; omega
          · go_wp2
            go_ret
            exact ⟨rfl, HBz.out⟩

theorem count_long (a : Option Addr) (len cap : Nat) (w : World) (h : 1024 < len) (hm : len ≤ 9223372036854775807) :
    Calls Yba.prog 4 #[.slice a len cap] w fun e w' => e = .returned (.bool true) ∧ Below w.heap.size w w' := by
  go_enter Yba.func4, Yba.ntmps4
  go_wp2
  go_ret
  exact ⟨rfl, Below.refl _ _⟩

theorem count_at (a : Option Addr) (len cap : Nat) (zs : List Int) (w : World) (hl : zs.length = len) (hm : len ≤ 1024)
    (hc : 0 < zs.length → ∃ b off, a = some ⟨b, off, none⟩ ∧ ∀ i, i < zs.length → w.cell? ⟨b, off + i, none⟩ = some (.int .u8 (zs.getD i 0))) (hr : ∀ i : Nat, 0 ≤ zs[i]?.getD 0 ∧ zs[i]?.getD 0 ≤ 255) :
    Calls Yba.prog 4 #[.slice a len cap] w fun e w' => e = .returned (.bool true) ∧ Below w.heap.size w w' := by
  subst hl
  exact count_cells a cap zs w hm hc hr
end Go.Proofs.Ybulkhke
