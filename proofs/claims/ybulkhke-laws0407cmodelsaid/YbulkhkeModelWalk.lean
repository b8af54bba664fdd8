/-
  LawS0407CModel, walked.
-/
import Derived.Test.YbulkhkeHex
import Derived.OpenShut
namespace Go.Proofs.Ybulkhke
open Go.RowKit

/-- 'want' behind k rounds. -/
def wantB (zs : List Int) (k : Nat) : Bool := (zs.take k).all hexD && decide (0 < zs.length)

theorem want_zero (zs : List Int) : wantB zs 0 = decide (0 < zs.length) := by simp [wantB]
theorem want_all (zs : List Int) : wantB zs zs.length = hexB zs := by simp [wantB, hexB]
theorem want_good (zs : List Int) (k : Nat) (h : k < zs.length) (hd : hexD (zs[k]?.getD 0) = true) : wantB zs (k + 1) = wantB zs k := by
  unfold wantB; rw [take_all zs k h, hd, Bool.and_true]
theorem want_bad (zs : List Int) (k : Nat) (h : k < zs.length) (hd : hexD (zs[k]?.getD 0) = false) : wantB zs (k + 1) = false := by
  unfold wantB; rw [take_all zs k h, hd, Bool.and_false, Bool.false_and]

set_option maxHeartbeats 400000 in
theorem model_cells (b off cap : Nat) (zs : List Int) (w : World) (hm : zs.length ≤ 4096)
    (hc : ∀ i, i < zs.length → w.cell? ⟨b, off + i, none⟩ = some (.int .u8 (zs.getD i 0))) :
    Calls Yba.prog 5 #[.slice (some ⟨b, off, none⟩) zs.length cap] w fun e w' => e = .returned (.bool true) ∧ w' = w := by
  go_enter Yba.func5, Yba.ntmps5
  go_wp2
  go_loop [3, 4] (fun v i => ∃ k : Nat, k ≤ zs.length ∧ i = .int .i64 k ∧ v = .bool (wantB zs k)) (fun _ i => zs.length - (intOf i).toNat)
  case atStart => exact ⟨0, Nat.zero_le _, rfl, by rw [want_zero]⟩
  case round =>
    obtain ⟨k, hk, rfl, rfl⟩ := hrel
    by_cases hlt : k < zs.length
    · have hcell' : w.cell? ⟨b, off + k, none⟩ = some (.int .u8 (zs[k]?.getD 0)) := by simpa [List.getD] using hc k hlt
      obtain ⟨c, hcc⟩ : ∃ c, c = zs[k]?.getD 0 := ⟨_, rfl⟩
      rw [← hcc] at hcell'
      have HC : Hid (c = zs[k]?.getD 0) := hcc
      clear hcc hc
      have hn := hexV_neg c
      by_cases hx : hexD c = true
      · have hx' : ¬ hexV c < 0 := by rw [hx] at hn; simpa using hn
        have HX : Hid (hexD c = true) := hx
        clear hx hn
        go_wp2_with (go_at_call 12; refine (hexV_any _ _).mono ?_; rintro e w' ⟨rfl, rfl⟩)
        go_round
        case rel => exact ⟨k + 1, by omega, by go_num, by rw [want_good zs k hlt (by rw [← HC.out]; exact HX.out)]⟩
        case measure => simp [intOf]; omega
      · have hx0 : hexD c = false := by simpa using hx
        have hx' : hexV c < 0 := by rw [hx0] at hn; simpa using hn
        have HX : Hid (hexD c = false) := hx0
        clear hx hx0 hn
        go_wp2_with (go_at_call 12; refine (hexV_any _ _).mono ?_; rintro e w' ⟨rfl, rfl⟩)
        go_round
        case rel => exact ⟨k + 1, by omega, by go_num, by rw [want_bad zs k hlt (by rw [← HC.out]; exact HX.out)]⟩
        case measure => simp [intOf]; omega
    · have hke : k = zs.length := by omega
      subst hke
      go_wp2_with (go_at_call 13; refine (isHex_cells b off cap zs _ (by omega) hc).mono ?_; rintro e w' ⟨rfl, rfl⟩)
      go_ret
      exact ⟨ret_bool (by rw [want_all]; simp), rfl⟩

theorem model_none (a : Option Addr) (cap : Nat) (w : World) :
    Calls Yba.prog 5 #[.slice a 0 cap] w fun e w' => e = .returned (.bool true) ∧ w' = w := by
  go_enter Yba.func5, Yba.ntmps5
  go_wp2
  refine wp_loop_rounds 1 ?_
  rw [rounds_succ]
  go_wp2_with (go_at_call 13; refine (isHex_none _ _ _).mono ?_; rintro e w' ⟨rfl, rfl⟩)
  go_ret
  exact ⟨rfl, rfl⟩

theorem model_long (a : Option Addr) (len cap : Nat) (w : World) (h : 4096 < len) (hm : len ≤ 9223372036854775807) :
    Calls Yba.prog 5 #[.slice a len cap] w fun e w' => e = .returned (.bool true) ∧ w' = w := by
  go_enter Yba.func5, Yba.ntmps5
  go_wp2
  go_ret
  exact ⟨rfl, rfl⟩

theorem model_at (b off len cap : Nat) (zs : List Int) (w : World) (hl : zs.length = len) (hm : len ≤ 4096)
    (hc : ∀ i, i < zs.length → w.cell? ⟨b, off + i, none⟩ = some (.int .u8 (zs.getD i 0))) :
    Calls Yba.prog 5 #[.slice (some ⟨b, off, none⟩) len cap] w fun e w' => e = .returned (.bool true) ∧ w' = w := by
  subst hl
  exact model_cells b off cap zs w hm hc
end Go.Proofs.Ybulkhke
