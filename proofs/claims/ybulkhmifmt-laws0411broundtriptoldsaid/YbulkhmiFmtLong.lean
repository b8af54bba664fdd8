/-
  LawS0411BLong, walked.
-/
import Derived.Test.YbulkhmiFmtStop
namespace Go.Proofs.YbulkhmiFmt
open Go.RowKit Go.Extern.Stop Go.Stop Go.Extern
set_option linter.unusedVariables false

/-- The cells of a new row of bytes, and what they are worth. -/
def Own (w : World) (g : Nat) (ys : List Int) : Prop :=
  (∀ i, i < ys.length → w.cell? ⟨g, i, none⟩ = some (.int .u8 (ys.getD i 0))) ∧ ∀ i, w.frozen? ⟨g, i, none⟩ = false

theorem own_set {w : World} {g : Nat} {ys : List Int} (h : Own w g ys) (k : Nat) (hk : k < ys.length) (d : Int) : Own (w.setCell ⟨g, k, none⟩ (.int .u8 d)) g (ys.set k d) := by
  refine ⟨fun i hi => ?_, fun i => by rw [World.frozen?_setCell]; exact h.2 i⟩
  have hi' : i < ys.length := by simpa using hi
  by_cases e : k = i
  · subst e
    rw [World.cell?_setCell_same _ _ _ (h.1 k hk)]
    simp [hk]
  · rw [World.cell?_setCell_other _ _ _ _ (fun h => e (congrArg Addr.off h)), h.1 i hi']
    simp [List.getD, e]

theorem own_below {B : Nat} {w w' : World} {base n : Nat} {v : Value} {xs : List Value} (h : w.ownsRow base 5 1 v n xs) (k : Below B w w') (hB : ∀ g, v.ownBlock = some g → g < B) : w'.ownsRow base 5 1 v n xs := by
  refine ⟨h.1, ?_⟩
  rcases h.2 with h0 | ⟨g, cap, cur, rfl, hb, hgg, rest⟩
  · exact .inl h0
  · exact .inr ⟨g, cap, cur, rfl, hb, by rw [k.block g (hB g rfl)]; exact hgg, rest⟩

set_option maxHeartbeats 1000000 in
theorem long_any (F : Interp) (doi proto typ k : Int) (da pa : Option Addr) (cd cp : Nat) (data pfx : List Int) (w : World) (hF : F.answers w.tape) (hk : 0 ≤ k ∧ k ≤ 255)
    (hdata : data.length ≤ 1024) (hpre : pfx.length ≤ 1024) (hp : Src w pa cp pfx) :
    Calls Ybaf.prog 4 #[.int .u32 doi, .int .u8 proto, .int .u16 typ, .int .u8 k, .slice da data.length cd, .slice pa pfx.length cp] w fun e w' => e = .returned (.bool true) ∧ Below w.heap.size w w' := by
  obtain ⟨i0, hi, hz0, hz1, hz2⟩ := info_parts Ybaf.info5
  have HP : Hid (Src w pa cp pfx) := hp
  have HF : Hid (F.answers w.tape) := hF
  obtain ⟨m, hm⟩ : ∃ m : Nat, (256 + k % 64 : Int) = (m : Int) := ⟨(256 + k % 64).toNat, by omega⟩
  have hm1 : 255 < m := by omega
  have hm2 : m ≤ 319 := by omega
  clear hp hF
  go_enter Ybaf.func4, Ybaf.ntmps4
  go_wp2_with (at_make; refine wpList_make_full _ rfl _ _ 24 rfl w.heap.size 5 i0 (.int .u8 0) 1 Ybaf.underlying24 hi hz0 hz1 .i64 .i64 _ _ m rfl rfl rfl rfl (by rw [hz2]; omega) (by unfold maxLen; omega) (Nat.le_refl _) ?_)
  intro w1 hown hgrow
  have hbel : Below w.heap.size w w1 := (Below.refl _ _).grown hgrow (Nat.le_refl _) (fun k h => by cases h)
  have hO : Own w1 w.heap.size (List.replicate m 0) := by
    refine ⟨fun i hi => ?_, fun i => hown.frozenAt i⟩
    have h2 := hown.cellAt i (by simp at hi; omega)
    rw [h2]
    rw [toList_madeCells_one]
    simp at hi
    simp [hi]
  have hlw : w.heap.size < w1.heap.size := (hown.lt w.heap.size rfl).2
  clear hown hgrow hi hz0 hz1 hz2
  go_wp2
  go_loopw [15] (fun i wr => ∃ q : Nat, ∃ ys : List Int, q ≤ m ∧ i = .int .i64 q ∧ Below w.heap.size w wr ∧ Own wr w.heap.size ys ∧ Hid (ys.length = m) ∧ w.heap.size < wr.heap.size) (fun i _ => m - (intOf i).toNat)
  case atStart => exact ⟨0, _, Nat.zero_le _, rfl, hbel, hO, by simp [Hid], hlw⟩
  case round =>
    obtain ⟨q, ys, hq, rfl, hnx, hO', hyl, hlr⟩ := hrel
    by_cases hlt : q < m
    · have hyc : wr.cell? ⟨w.heap.size, q, none⟩ = some (.int .u8 (ys.getD q 0)) := hO'.1 q (by rw [hyl.out]; exact hlt)
      have hyf := hO'.2 q
      go_wp2
      go_roundw
      case rel => exact ⟨q + 1, ys.set q _, by omega, by go_num, hnx.setCell (Nat.le_refl _) _, own_set hO' q (by rw [hyl.out]; exact hlt) _, by simpa [Hid] using hyl.out, by simpa using hlr⟩
      case measure => simp [intOf]; omega
    · clear hO' hO hbel hlw
      go_wp2_with fail
      refine (copy_any _ _ pfx _ (by omega) (HP.out.below hnx HP.out.low)).mono ?_
      rintro e w2 ⟨v, rfl, hown, hb2⟩
      obtain ⟨ao, cv, rfl⟩ := slice_shape hown
      have HO : Hid (w2.ownsRow wr.heap.size 5 1 (.slice ao pfx.length cv) pfx.length (bytes pfx)) := hown
      have HB : Hid (Below w.heap.size w w2) := hnx.trans (hb2.mono (by omega))
      have hs2 := hb2.size
      clear hown hb2 hnx
      go_wp2_with fail
      refine (append_err F _ _ _ _ _ _ _ _ _ _ _ _ _ ?_ hm1 (by omega)).mono ?_
      · exact (show F.answers w2.tape by rw [HB.out.tape]; exact HF.out)
      · rintro e w3 ⟨⟨pe, rfl⟩, hb3⟩
        have HB3 : Hid (Below w.heap.size w w3) := (HB.out.alloc (by omega) _).trans (hb3.mono (by simp; omega))
        have HO3 : Hid (Src w3 ao cv pfx) := own_src (own_below (HO.out.alloc _) hb3 (fun g hg => by have := HO.out.lt g hg; simp; omega)) rfl
        have HP3 : Hid (Src w3 pa cp pfx) := HP.out.below HB3.out HP.out.low
        clear hb3
        go_wp2_with (go_at_call 8; refine (eq_any _ _ _ _ pfx _ (by omega) HO3.out HP3.out).mono ?_; rintro e w4 ⟨rfl, hK4⟩)
        go_ret
        exact ⟨rfl, hK4.below HB3.out HB3.out.size (fun i h => h.elim)⟩

theorem long_out (doi proto typ k : Int) (da pa : Option Addr) (ld cd lp cp : Nat) (w : World) (h1 : ld ≤ 9223372036854775807) (h2 : lp ≤ 9223372036854775807) (h : 1024 < ld ∨ 1024 < lp) :
    Calls Ybaf.prog 4 #[.int .u32 doi, .int .u8 proto, .int .u16 typ, .int .u8 k, .slice da ld cd, .slice pa lp cp] w fun e w' => e = .returned (.bool true) ∧ Below w.heap.size w w' := by
  by_cases hl : 1024 < ld
  · go_enter Ybaf.func4, Ybaf.ntmps4
    go_wp2
    go_ret
    exact ⟨rfl, Below.refl _ _⟩
  · have hd : decide ((1024 : Int) < (ld : Int)) = false := decide_eq_false (by omega)
    have hl2 : 1024 < lp := by omega
    clear h
    go_enter Ybaf.func4, Ybaf.ntmps4
    go_wp2
    go_ret
    exact ⟨rfl, Below.refl _ _⟩
end Go.Proofs.YbulkhmiFmt
