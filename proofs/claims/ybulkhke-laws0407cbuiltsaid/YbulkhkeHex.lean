/-
  isHex and isDigit, walked: for every slice of bytes.
-/
import Derived.Test.YbulkhkeRows
import Derived.WalkKit
import Derived.WalkSpells
namespace Go.Proofs.Ybulkhke
open Go.RowKit

/-- a hex digit -/
def hexD (c : Int) : Bool := decide ((48 ≤ c ∧ c ≤ 57) ∨ (97 ≤ c ∧ c ≤ 102) ∨ (65 ≤ c ∧ c ≤ 70))
/-- what isHex answers -/
def hexB (zs : List Int) : Bool := zs.all hexD && decide (0 < zs.length)

theorem take_all (zs : List Int) (k : Nat) (h : k < zs.length) : (zs.take (k + 1)).all hexD = ((zs.take k).all hexD && hexD (zs[k]?.getD 0)) := by
  rw [List.take_succ_eq_append_getElem h, List.all_append]
  simp [h]

theorem all_false (zs : List Int) (k : Nat) (h : k < zs.length) (hd : hexD (zs[k]?.getD 0) = false) : hexB zs = false := by
  have : zs.all hexD = false := by
    rw [List.all_eq_false]
    exact ⟨zs[k], List.getElem_mem h, by simpa [h] using hd⟩
  simp [hexB, this]

theorem ret_bool {a b : Bool} (h : a = b) : Ending.returned (.bool a) = .returned (.bool b) := by rw [h]

set_option maxHeartbeats 400000 in
theorem isHex_cells (b off cap : Nat) (zs : List Int) (w : World) (hm : zs.length ≤ 9223372036854775807)
    (hc : ∀ i, i < zs.length → w.cell? ⟨b, off + i, none⟩ = some (.int .u8 (zs.getD i 0))) :
    Calls Yba.prog 13 #[.slice (some ⟨b, off, none⟩) zs.length cap] w fun e w' => e = .returned (.bool (hexB zs)) ∧ w' = w := by
  go_enter Yba.func13, Yba.ntmps13
  go_wp2
  go_loop [7] (fun i => ∃ k : Nat, k ≤ zs.length ∧ i = .int .i64 k ∧ Hid ((zs.take k).all hexD = true)) (fun i => zs.length - (intOf i).toNat)
  case atStart => exact ⟨0, Nat.zero_le _, rfl, by simp [Hid]⟩
  case round =>
    obtain ⟨k, hk, rfl, hal⟩ := hrel
    by_cases hlt : k < zs.length
    · have hcell := hc k hlt
      have hcell' : w.cell? ⟨b, off + k, none⟩ = some (.int .u8 (zs[k]?.getD 0)) := by simpa [List.getD] using hcell
      clear hcell
      obtain ⟨c, hcc⟩ : ∃ c, c = zs[k]?.getD 0 := ⟨_, rfl⟩
      rw [← hcc] at hcell'
      have HC : Hid (c = zs[k]?.getD 0) := hcc
      clear hcc hc
      by_cases hx : hexD c = true
      · have hx' := hx
        unfold hexD at hx'
        have HX : Hid (hexD c = true) := hx
        clear hx
        rcases of_decide_eq_true hx' with ⟨h1, h2⟩ | ⟨h1, h2⟩ | ⟨h1, h2⟩
        all_goals
          clear hx'
          go_wp2
          go_round
          case rel => exact ⟨k + 1, by omega, by go_num, by unfold Hid; rw [take_all zs k hlt, hal.out, ← HC.out, HX.out]; rfl⟩
          case measure => simp [intOf]; omega
      · have hx' : ¬ ((48 ≤ c ∧ c ≤ 57) ∨ (97 ≤ c ∧ c ≤ 102) ∨ (65 ≤ c ∧ c ≤ 70)) := by simpa [hexD] using hx
        have HX : Hid (hexD c = false) := by unfold Hid; simpa using hx
        clear hx
        have hx4 : c < 48 ∨ (57 < c ∧ c < 65) ∨ (70 < c ∧ c < 97) ∨ 102 < c := by omega
        clear hx'
        have hd57 : 57 < c → decide (c ≤ 57) = false := fun h => decide_eq_false (by omega)
        have hd70 : 70 < c → decide (c ≤ 70) = false := fun h => decide_eq_false (by omega)
        have hd102 : 102 < c → decide (c ≤ 102) = false := fun h => decide_eq_false (by omega)
        rcases hx4 with h1 | ⟨h1, h2⟩ | ⟨h1, h2⟩ | h1
        · clear hd57 hd70 hd102
          go_wp2
          go_ret
          exact ⟨ret_bool (all_false zs k hlt (by rw [← HC.out]; exact HX.out)).symm, rfl⟩
        · have d1 := hd57 (by omega)
          clear hd57 hd70 hd102
          go_wp2
          go_ret
          exact ⟨ret_bool (all_false zs k hlt (by rw [← HC.out]; exact HX.out)).symm, rfl⟩
        · have d1 := hd57 (by omega)
          have d2 := hd70 (by omega)
          clear hd57 hd70 hd102
          go_wp2
          go_ret
          exact ⟨ret_bool (all_false zs k hlt (by rw [← HC.out]; exact HX.out)).symm, rfl⟩
        · have d1 := hd57 (by omega)
          have d2 := hd70 (by omega)
          have d3 := hd102 (by omega)
          clear hd57 hd70 hd102
          go_wp2
          go_ret
          exact ⟨ret_bool (all_false zs k hlt (by rw [← HC.out]; exact HX.out)).symm, rfl⟩
    · go_wp2
      go_ret
      have hke : k = zs.length := by omega
      subst hke
      exact ⟨ret_bool (by have := hal.out; rw [List.take_length] at this; simp [hexB, this]), rfl⟩

/-- A slice without elements: whatever its address. -/
theorem isHex_none (a : Option Addr) (cap : Nat) (w : World) :
    Calls Yba.prog 13 #[.slice a 0 cap] w fun e w' => e = .returned (.bool false) ∧ w' = w := by
  go_enter Yba.func13, Yba.ntmps13
  go_wp2
  refine wp_loop_rounds 1 ?_
  rw [rounds_succ]
  go_wp2
  go_ret
  exact ⟨rfl, rfl⟩

/-- zzs0407chexval: the value of a digit, -1 of another byte. -/
def hexV (c : Int) : Int := if 48 ≤ c ∧ c ≤ 57 then c - 48 else if 97 ≤ c ∧ c ≤ 102 then c - 97 + 10 else if 65 ≤ c ∧ c ≤ 70 then c - 65 + 10 else -1
theorem ret_int {k : IntKind} {a b : Int} (h : a = b) : Ending.returned (.int k a) = .returned (.int k b) := by rw [h]
theorem hexV_any (c : Int) (w : World) :
    Calls Yba.prog 12 #[.int .u8 c] w fun e w' => e = .returned (.int .i64 (hexV c)) ∧ w' = w := by
  have h7 : c < 48 ∨ (48 ≤ c ∧ c ≤ 57) ∨ (57 < c ∧ c < 65) ∨ (65 ≤ c ∧ c ≤ 70) ∨ (70 < c ∧ c < 97) ∨ (97 ≤ c ∧ c ≤ 102) ∨ 102 < c := by omega
  rcases h7 with h1 | ⟨h1, h2⟩ | ⟨h1, h2⟩ | ⟨h1, h2⟩ | ⟨h1, h2⟩ | ⟨h1, h2⟩ | h1
  all_goals
    go_enter Yba.func12, Yba.ntmps12
    go_wp2
    go_ret
    exact ⟨ret_int (by unfold hexV; repeat (first | rw [if_pos (by omega)] | rw [if_neg (by omega)])), rfl⟩
theorem hexV_neg (c : Int) : decide (hexV c < 0) = !hexD c := by
  have h7 : c < 48 ∨ (48 ≤ c ∧ c ≤ 57) ∨ (57 < c ∧ c < 65) ∨ (65 ≤ c ∧ c ≤ 70) ∨ (70 < c ∧ c < 97) ∨ (97 ≤ c ∧ c ≤ 102) ∨ 102 < c := by omega
  have e1 : hexD c = decide (0 ≤ hexV c) := by
    unfold hexD
    rw [decide_eq_decide]
    unfold hexV
    rcases h7 with h1 | ⟨h1, h2⟩ | ⟨h1, h2⟩ | ⟨h1, h2⟩ | ⟨h1, h2⟩ | ⟨h1, h2⟩ | h1
    all_goals
      repeat (first | rw [if_pos (by omega)] | rw [if_neg (by omega)])
      omega
  rw [e1, Bool.eq_iff_iff]
  simp
end Go.Proofs.Ybulkhke
