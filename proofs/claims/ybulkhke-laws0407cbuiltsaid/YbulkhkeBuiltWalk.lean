/-
  LawS0407CBuilt, walked.
-/
import Derived.Test.YbulkhkeHex
import Derived.OpenShut
import Derived.RegionTactic
import Derived.ChangeAlike
namespace Go.Proofs.Ybulkhke
open Go.RowKit

theorem Yba.info5 : (Yba.prog.info? 5).map (fun i => (i.zero, i.size, i.bytes)) = some (some (.int .u8 0), 1, 1) := by kernel_rfl

/-- The cells of a new row of bytes, and what they are worth. -/
def Own (w : World) (g : Nat) (ys : List Int) : Prop :=
  (∀ i, i < ys.length → w.cell? ⟨g, i, none⟩ = some (.int .u8 (ys.getD i 0))) ∧ ∀ i, w.frozen? ⟨g, i, none⟩ = false

theorem own_set {w : World} {g : Nat} {ys : List Int} (h : Own w g ys) (k : Nat) (hk : k < ys.length) (d : Int) : Own (w.setCell ⟨g, k, none⟩ (.int .u8 d)) g (ys.set k d) := by
  refine ⟨fun i hi => ?_, fun i => by rw [World.frozen?_setCell]; exact h.2 i⟩
  have hi' : i < ys.length := by simpa using hi
  by_cases e : k = i
  · subst e
    rw [World.cell?_setCell_same _ _ _ (h.1 k hk)]
    simp [hk]
  · rw [World.cell?_setCell_other _ _ _ _ (fun h => e (congrArg Addr.off h)), h.1 i hi']
    simp [List.getD, e]

theorem set_all (ys : List Int) (k : Nat) (h : k < ys.length) (d : Int) (hal : (ys.take k).all hexD = true) (hd : hexD d = true) : ((ys.set k d).take (k + 1)).all hexD = true := by
  rw [List.take_succ_eq_append_getElem (by simpa using h), List.all_append, List.take_set_of_le (Nat.le_refl _), hal]
  simp [hd]

theorem set_bad (ys : List Int) (k : Nat) (h : k < ys.length) (d : Int) (hd : hexD d = false) : hexB (ys.set k d) = false :=
  all_false _ k (by simpa using h) (by simp [h, hd])

theorem digit22 : ∀ j : Fin 22, hexD ((ByteArray.mk #[48, 49, 50, 51, 52, 53, 54, 55, 56, 57, 97, 98, 99, 100, 101, 102, 65, 66, 67, 68, 69, 70])[j.val].toNat) = true := by decide
theorem digit_at (n : Nat) (h : n < 22) (h' : n < (ByteArray.mk #[48, 49, 50, 51, 52, 53, 54, 55, 56, 57, 97, 98, 99, 100, 101, 102, 65, 66, 67, 68, 69, 70]).size) :
    hexD ((ByteArray.mk #[48, 49, 50, 51, 52, 53, 54, 55, 56, 57, 97, 98, 99, 100, 101, 102, 65, 66, 67, 68, 69, 70])[n].toNat) = true := digit22 ⟨n, h⟩
theorem non12 : ∀ j : Fin 12, hexD ((ByteArray.mk #[103, 71, 47, 58, 64, 96, 120, 88, 45, 122, 90, 32])[j.val].toNat) = false := by decide
theorem non_at (n : Nat) (h : n < 12) (h' : n < (ByteArray.mk #[103, 71, 47, 58, 64, 96, 120, 88, 45, 122, 90, 32]).size) :
    hexD ((ByteArray.mk #[103, 71, 47, 58, 64, 96, 120, 88, 45, 122, 90, 32])[n].toNat) = false := non12 ⟨n, h⟩

/-- isHex of a row of the call's own: yes. -/
theorem isHex_yes (g len cap : Nat) (ys : List Int) (w : World) (hO : Own w g ys) (hl : ys.length = len) (hp : 0 < len) (hm : len ≤ 9223372036854775807) (hal : (ys.take len).all hexD = true) :
    Calls Yba.prog 13 #[.slice (some ⟨g, 0, none⟩) len cap] w fun e w' => e = .returned (.bool true) ∧ w' = w := by
  subst hl
  rw [List.take_length] at hal
  refine (isHex_cells g 0 cap ys w hm (by simpa using hO.1)).mono ?_
  rintro e w' ⟨rfl, rfl⟩
  exact ⟨ret_bool (by simp [hexB, hal, hp]), rfl⟩
/-- isHex of a row of the call's own: no. -/
theorem isHex_no (g len cap : Nat) (ys : List Int) (w : World) (hO : Own w g ys) (hl : ys.length = len) (hm : len ≤ 9223372036854775807) (hal : hexB ys = false) :
    Calls Yba.prog 13 #[.slice (some ⟨g, 0, none⟩) len cap] w fun e w' => e = .returned (.bool false) ∧ w' = w := by
  subst hl
  refine (isHex_cells g 0 cap ys w hm (by simpa using hO.1)).mono ?_
  rintro e w' ⟨rfl, rfl⟩
  exact ⟨ret_bool hal, rfl⟩

/-- isHex of a row of the call's own, one byte spoilt. -/
theorem isHex_spoilt (g len cap q : Nat) (ys : List Int) (d : Int) (w : World) (hO : Own w g ys) (hl : ys.length = len) (hq : q < len) (hm : len ≤ 9223372036854775807) (hd : hexD d = false) :
    Calls Yba.prog 13 #[.slice (some ⟨g, 0, none⟩) len cap] (w.setCell ⟨g, q, none⟩ (.int .u8 d)).drew fun e w' => e = .returned (.bool false) ∧ w' = (w.setCell ⟨g, q, none⟩ (.int .u8 d)).drew := by
  have hO2 := own_set hO q (by omega) d
  exact isHex_no g len cap (ys.set q d) _ ⟨hO2.1, hO2.2⟩ (by simpa using hl) hm (set_bad ys q (by omega) d hd)

set_option maxHeartbeats 800000 in
theorem built_cells (b off cap : Nat) (zs : List Int) (pos bad : Int) (w : World) (hp : 0 < zs.length) (hm : zs.length ≤ 1024)
    (hc : ∀ i, i < zs.length → w.cell? ⟨b, off + i, none⟩ = some (.int .u8 (zs.getD i 0))) (hr : ∀ i : Nat, 0 ≤ zs[i]?.getD 0 ∧ zs[i]?.getD 0 ≤ 255)
    (hpos : 0 ≤ pos ∧ pos ≤ 255) (hbad : 0 ≤ bad ∧ bad ≤ 255) :
    Calls Yba.prog 6 #[.slice (some ⟨b, off, none⟩) zs.length cap, .int .u8 pos, .int .u8 bad] w fun e w' => e = .returned (.bool true) ∧ Below w.heap.size w w' := by
  obtain ⟨i0, hi, hz0, hz1, hz2⟩ := info_parts Yba.info5
  have hb : b < w.heap.size := World.block_lt_of_cell? w _ (hc 0 hp)
  go_enter Yba.func6, Yba.ntmps6
  go_wp2_with (at_make; refine wpList_make_full _ rfl _ _ 25 rfl w.heap.size 5 i0 (.int .u8 0) 1 Yba.underlying25 hi hz0 hz1 .i64 .i64 _ _ zs.length rfl rfl rfl rfl (by rw [hz2]; omega) (by unfold maxLen; omega) (Nat.le_refl _) ?_)
  intro w1 hown hgrow
  have hbel : Below w.heap.size w w1 := (Below.refl _ _).grown hgrow (Nat.le_refl _) (fun k h => by cases h)
  have hO : Own w1 w.heap.size (List.replicate zs.length 0) := by
    refine ⟨fun i hi => ?_, fun i => hown.frozenAt i⟩
    have h2 := hown.cellAt i (by simp at hi; omega)
    rw [h2]
    rw [toList_madeCells_one]
    simp at hi
    simp [hi]
  have hlw : w.heap.size < w1.heap.size := (hown.lt w.heap.size rfl).2
  clear hown hgrow hi hz0 hz1 hz2
  go_wp2
  go_loopw [8] (fun i wr => ∃ k : Nat, ∃ ys : List Int, k ≤ zs.length ∧ i = .int .i64 k ∧ Below w.heap.size w wr ∧ Own wr w.heap.size ys ∧ Hid (ys.length = zs.length) ∧ Hid ((ys.take k).all hexD = true)) (fun i _ => zs.length - (intOf i).toNat)
  case atStart => exact ⟨0, _, Nat.zero_le _, rfl, hbel, hO, by simp [Hid], by simp [Hid]⟩
  case round =>
    obtain ⟨k, ys, hk, rfl, hnx, hO', hyl, hal⟩ := hrel
    by_cases hlt : k < zs.length
    · have hcell : wr.cell? ⟨b, off + k, none⟩ = some (.int .u8 (zs[k]?.getD 0)) := by
        rw [hnx.cell (p := ⟨b, off + k, none⟩) hb]; simpa [List.getD] using hc k hlt
      have hd := hr k
      obtain ⟨c, hcc⟩ : ∃ c, c = zs[k]?.getD 0 := ⟨_, rfl⟩
      rw [← hcc] at hcell hd
      have hyc : wr.cell? ⟨w.heap.size, k, none⟩ = some (.int .u8 (ys.getD k 0)) := hO'.1 k (by rw [hyl.out]; exact hlt)
      have hyf := hO'.2 k
      clear hcc hc hr
      go_wp2
      go_roundw
      case rel => exact ⟨k + 1, ys.set k _, by omega, by go_num, hnx.setCell (Nat.le_refl _) _, own_set hO' k (by rw [hyl.out]; exact hlt) _, by simpa [Hid] using hyl.out, set_all ys k (by rw [hyl.out]; exact hlt) _ hal.out (digit_at _ (by omega) _)⟩
      case measure => simp [intOf]; omega
    · have hke : k = zs.length := by omega
      subst hke
      have hq0 : 0 ≤ pos % (zs.length : Int) := Int.emod_nonneg _ (by omega)
      have hq1 : pos % (zs.length : Int) < (zs.length : Int) := Int.emod_lt_of_pos _ (by omega)
      have hqc : wr.cell? ⟨w.heap.size, (pos % (zs.length : Int)).toNat, none⟩ = some (.int .u8 (ys.getD (pos % (zs.length : Int)).toNat 0)) := hO'.1 _ (by rw [hyl.out]; omega)
      have hqf := hO'.2 (pos % (zs.length : Int)).toNat
      have hbb : 0 ≤ bad % 12 ∧ bad % 12 < 12 := by omega
      clear hc hr
      go_wp2_with (go_at_call 13; refine (isHex_yes _ _ _ ys _ hO' hyl.out hp (by omega) hal.out).mono ?_; rintro e w' ⟨rfl, rfl⟩)
      go_region
      go_wp2_with (go_at_call 13; refine (isHex_spoilt _ _ _ _ ys _ _ hO' hyl.out (by omega) (by omega) (by exact non_at _ (by omega) _)).mono ?_; rintro e w2 ⟨rfl, rfl⟩)
      go_ret
      exact ⟨rfl, (hnx.setCell (Nat.le_refl _) _).drew⟩

theorem built_none (a : Option Addr) (cap : Nat) (pos bad : Int) (w : World) :
    Calls Yba.prog 6 #[.slice a 0 cap, .int .u8 pos, .int .u8 bad] w fun e w' => e = .returned (.bool true) ∧ Below w.heap.size w w' := by
  obtain ⟨i0, hi, hz0, hz1, hz2⟩ := info_parts Yba.info5
  go_enter Yba.func6, Yba.ntmps6
  go_wp2_with (at_make; refine wpList_make_full _ rfl _ _ 25 rfl w.heap.size 5 i0 (.int .u8 0) 1 Yba.underlying25 hi hz0 hz1 .i64 .i64 _ _ 0 rfl rfl rfl rfl (by rw [hz2]; omega) (by unfold maxLen; omega) (Nat.le_refl _) ?_)
  intro w1 hown hgrow
  have hbel : Below w.heap.size w w1 := (Below.refl _ _).grown hgrow (Nat.le_refl _) (fun k h => by cases h)
  clear hown hgrow hi hz0 hz1 hz2
  go_wp2
  refine wp_loop_rounds 1 ?_
  rw [rounds_succ]
  go_wp2_with (go_at_call 13; refine (isHex_none _ _ _).mono ?_; rintro e w' ⟨rfl, rfl⟩)
  go_ret
  exact ⟨rfl, hbel⟩

theorem built_long (a : Option Addr) (len cap : Nat) (pos bad : Int) (w : World) (h : 1024 < len) (hm : len ≤ 9223372036854775807) :
    Calls Yba.prog 6 #[.slice a len cap, .int .u8 pos, .int .u8 bad] w fun e w' => e = .returned (.bool true) ∧ Below w.heap.size w w' := by
  go_enter Yba.func6, Yba.ntmps6
  go_wp2
  go_ret
  exact ⟨rfl, Below.refl _ _⟩

theorem built_at (b off len cap : Nat) (zs : List Int) (pos bad : Int) (w : World) (hl : zs.length = len) (hp : 0 < len) (hm : len ≤ 1024)
    (hc : ∀ i, i < zs.length → w.cell? ⟨b, off + i, none⟩ = some (.int .u8 (zs.getD i 0))) (hr : ∀ i : Nat, 0 ≤ zs[i]?.getD 0 ∧ zs[i]?.getD 0 ≤ 255)
    (hpos : 0 ≤ pos ∧ pos ≤ 255) (hbad : 0 ≤ bad ∧ bad ≤ 255) :
    Calls Yba.prog 6 #[.slice (some ⟨b, off, none⟩) len cap, .int .u8 pos, .int .u8 bad] w fun e w' => e = .returned (.bool true) ∧ Below w.heap.size w w' := by
  subst hl
  exact built_cells b off cap zs pos bad w hp hm hc hr hpos hbad
end Go.Proofs.Ybulkhke
