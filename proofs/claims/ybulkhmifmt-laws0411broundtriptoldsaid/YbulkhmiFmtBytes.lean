/-
  zzs0411bcopy and zzs0411beq, walked.
-/
import Derived.Test.YbulkhmiFmtOwnLaw
import Derived.WalkSpells
import Derived.OpenShut
import Derived.RegionTactic
import Derived.Laws.CopyOwn
namespace Go.Proofs.YbulkhmiFmt
open Go.RowKit
set_option linter.unusedVariables false

theorem Ybaf.info5 : (Ybaf.prog.info? 5).map (fun i => (i.zero, i.size, i.bytes)) = some (some (.int .u8 0), 1, 1) := by kernel_rfl
theorem Ybaf.size5 : (Ybaf.prog.info? 5).map (·.size) = some 1 := by kernel_rfl

abbrev bytes (xs : List Int) : List Value := xs.map (Value.int .u8)

/-- What is known of a slice of bytes: nil, or its elements' cells. -/
def Src (w : World) (a : Option Addr) (cap : Nat) (zs : List Int) : Prop :=
  (a = none ∧ zs = [] ∧ cap = 0) ∨ ∃ x, a = some x ∧ ∀ i, i < zs.length → w.cell? (x.add i) = some (.int .u8 (zs.getD i 0))

/-- .. and where it may lie. -/
def Low (B : Nat) (a : Option Addr) (zs : List Int) : Prop := 0 < zs.length → ∀ x, a = some x → x.block < B

theorem Src.below {B : Nat} {w w' : World} {a : Option Addr} {cap : Nat} {zs : List Int} (h : Src w a cap zs) (k : Below B w w') (hl : Low B a zs) : Src w' a cap zs := by
  rcases h with h | ⟨x, rfl, hc⟩
  · exact .inl h
  · refine .inr ⟨x, rfl, fun i hi => ?_⟩
    have hb : (x.add i).block = x.block := by obtain ⟨b, o, s⟩ := x; unfold Addr.add; split <;> rfl
    rw [k.cell (p := x.add i) (by rw [hb]; exact hl (by omega) x rfl)]
    exact hc i hi

theorem Src.low {w : World} {a : Option Addr} {cap : Nat} {zs : List Int} (h : Src w a cap zs) : Low w.heap.size a zs := by
  intro hp x hx
  rcases h with ⟨_, rfl, _⟩ | ⟨y, rfl, hc⟩
  · simp at hp
  · have := World.block_lt_of_cell? w _ (hc 0 hp)
    obtain rfl : y = x := by simpa using hx
    have hb : (y.add 0).block = y.block := by obtain ⟨b, o, s⟩ := y; unfold Addr.add; split <;> rfl
    rw [hb] at this
    exact this

theorem add0 (g i : Nat) : (⟨g, 0, none⟩ : Addr).add i = ⟨g, i, none⟩ := by unfold Addr.add; split <;> simp_all

theorem Src.cells {w : World} {x : Addr} {cap : Nat} {zs : List Int} (hc : ∀ i, i < zs.length → w.cell? (x.add i) = some (.int .u8 (zs.getD i 0))) : ∀ j u, (bytes zs)[j]? = some u → w.cell? (x.add j) = some u := by
  intro j u hj
  have hj' : j < zs.length := by have := (List.getElem?_eq_some_iff.1 hj).1; simpa using this
  rw [hc j hj', ← hj]
  simp [hj']

/-- A row of the call's own as a source. -/
theorem own_src {w : World} {base : Nat} {v : Value} {xs : List Int} (h : w.ownsRow base 5 1 v xs.length (bytes xs)) {ao : Option Addr} {cap : Nat} (hv : v = .slice ao xs.length cap) : Src w ao cap xs := by
  rcases h.2 with ⟨h0, hn⟩ | ⟨g, c', cur, h', _⟩
  · rw [hv] at h0; simp at h0
    exact .inl ⟨h0.1, by simpa using hn, h0.2.2⟩
  · rw [hv] at h'; simp at h'
    obtain ⟨rfl, rfl⟩ := h'
    subst hv
    refine .inr ⟨_, rfl, fun i hi => ?_⟩
    rw [add0 g i, h.cellAt i (by omega)]
    simp [hi]

theorem slice_shape {w : World} {base : Nat} {v : Value} {n : Nat} {xs : List Value} (h : w.ownsRow base 5 1 v n xs) : ∃ ao cap, v = .slice ao n cap := by
  rcases h.2 with ⟨rfl, rfl⟩ | ⟨g, cap, _, rfl, _⟩
  · exact ⟨none, 0, rfl⟩
  · exact ⟨_, cap, rfl⟩

set_option maxHeartbeats 400000 in
theorem copy_any (a : Option Addr) (cap : Nat) (zs : List Int) (w : World) (hlen : zs.length ≤ 5000) (hc : Src w a cap zs) :
    Calls Ybaf.prog 6 #[.slice a zs.length cap] w fun e w' => ∃ v, e = .returned v ∧ w'.ownsRow w.heap.size 5 1 v zs.length (bytes zs) ∧ Below w.heap.size w w' := by
  obtain ⟨i0, hi, hz0, hz1, hz2⟩ := info_parts Ybaf.info5
  have HC : Hid (Src w a cap zs) := hc
  clear hc
  go_enter Ybaf.func6, Ybaf.ntmps6
  go_wp2_with (at_make; refine wpList_make_full _ rfl _ _ 24 rfl w.heap.size 5 i0 (.int .u8 0) 1 Ybaf.underlying24 hi hz0 hz1 .i64 .i64 _ _ zs.length rfl rfl rfl rfl (by rw [hz2]; omega) (by unfold maxLen; omega) (Nat.le_refl _) ?_)
  intro w1 hown hgrow
  have hbel : Below w.heap.size w w1 := (Below.refl _ _).grown hgrow (Nat.le_refl _) (fun k h => by cases h)
  obtain ⟨cur, hcur, hcs⟩ : ∃ cur : List Value, w1.heap[w.heap.size]? = some (.cells cur.toArray 5 (0, 0)) ∧ cur.length = zs.length := by
    rcases hown.2 with ⟨h, _⟩ | ⟨g, c', cu, h, _, hh, _, _, hs, _⟩
    · simp at h
    · simp at h
      obtain ⟨rfl, rfl⟩ := h
      exact ⟨cu.toList, by simpa using hh, by simpa using hs⟩
  have HCUR : Hid (w1.heap[w.heap.size]? = some (.cells cur.toArray 5 (0, 0))) := hcur
  have HCS : Hid (cur.length = zs.length) := hcs
  have HS : Hid (Src w1 a cap zs) := HC.out.below hbel HC.out.low
  clear hown hgrow hi hz0 hz1 hz2 hcur hcs HC
  go_wp2_with (refine wpList_copy_splice rfl (.tmp 7) (.tmp 8) 24 24 rfl 5 Ybaf.underlying24 Ybaf.size5 (some ⟨w.heap.size, 0, none⟩) a zs.length zs.length zs.length cap rfl rfl w.heap.size 0 cur 5 HCUR.out (bytes zs) ?_ ?_ ?_ ?_ w.heap.size w hbel (Nat.le_refl _) ?_)
  · simp
  · intro hp
    rcases HS.out with ⟨_, rfl, _⟩ | ⟨x, rfl, hx⟩
    · simp at hp
    · refine ⟨x, rfl, fun j b hj => ?_⟩
      have hj' : j < zs.length := (List.getElem?_eq_some_iff.1 hj).1
      rw [hx j hj']
      simp [List.getD, hj]
  · have := HCS.out; simp; omega
  · exact ints_oneCell _ _
  · intro w2 HG hB2
    have HR : Hid (w2.ownsRow w.heap.size 5 1 (.slice (some ⟨w.heap.size, 0, none⟩) zs.length zs.length) zs.length (bytes zs)) := by
      refine ⟨by simp, .inr ⟨w.heap.size, zs.length, _, rfl, Nat.le_refl _, HG.out, Nat.le_refl _, by unfold maxLen; omega, ?_, ?_⟩⟩
      · have := HCS.out; simp [splice]; omega
      · have h2 := HCS.out
        have e : splice cur 0 (bytes zs) = bytes zs := by
          unfold splice
          rw [List.drop_eq_nil_of_le (by simp; omega)]
          simp
        rw [e]
        simpa using List.take_of_length_le (l := bytes zs) (i := zs.length) (by simp)
    have HB : Hid (Below w.heap.size w w2) := hB2
    clear HG hB2 hbel HS HCUR HCS
    go_wp2
    go_ret
    exact ⟨_, rfl, HR.out, HB.out⟩

set_option maxHeartbeats 400000 in
theorem eq_cells (b1 off1 cap1 b2 off2 cap2 : Nat) (zs : List Int) (w : World) (hlen : zs.length ≤ 5000) (hp : 0 < zs.length)
    (h1 : ∀ i, i < zs.length → w.cell? ⟨b1, off1 + i, none⟩ = some (.int .u8 (zs.getD i 0))) (h2 : ∀ i, i < zs.length → w.cell? ⟨b2, off2 + i, none⟩ = some (.int .u8 (zs.getD i 0))) :
    Calls Ybaf.prog 8 #[.slice (some ⟨b1, off1, none⟩) zs.length cap1, .slice (some ⟨b2, off2, none⟩) zs.length cap2] w fun e w' => e = .returned (.bool true) ∧ Kept (fun _ => False) w w' := by
  have hb1 : b1 < w.heap.size := World.block_lt_of_cell? w _ (h1 0 hp)
  have hb2 : b2 < w.heap.size := World.block_lt_of_cell? w _ (h2 0 hp)
  go_enter Ybaf.func8, Ybaf.ntmps8
  go_wp2
  go_loopw [5] (fun i wr => ∃ k : Nat, k ≤ zs.length ∧ i = .int .i64 k ∧ Kept (fun _ => False) w wr) (fun i _ => zs.length - (intOf i).toNat)
  case atStart => exact ⟨0, Nat.zero_le _, rfl, Kept.refl _ _⟩
  case round =>
    obtain ⟨k, hk, rfl, hK⟩ := hrel
    by_cases hlt : k < zs.length
    · have g1 := (hK.cell (p := ⟨b1, off1 + k, none⟩) hb1 (by simp)).trans (h1 k hlt)
      have g2 := (hK.cell (p := ⟨b2, off2 + k, none⟩) hb2 (by simp)).trans (h2 k hlt)
      clear h1 h2
      go_wp2
      go_region
      go_wp2
      go_roundw
      case rel => exact ⟨k + 1, by omega, by go_num, hK.drew⟩
      case measure => simp [intOf]; omega
    · clear h1 h2
      go_wp2
      go_ret
      exact ⟨rfl, hK⟩

theorem eq_none (a1 a2 : Option Addr) (cap1 cap2 : Nat) (w : World) :
    Calls Ybaf.prog 8 #[.slice a1 0 cap1, .slice a2 0 cap2] w fun e w' => e = .returned (.bool true) ∧ w' = w := by
  go_enter Ybaf.func8, Ybaf.ntmps8
  go_wp2
  refine wp_loop_rounds 1 ?_
  rw [rounds_succ]
  go_wp2
  go_ret
  exact ⟨rfl, rfl⟩

theorem eq_any (a1 a2 : Option Addr) (cap1 cap2 : Nat) (zs : List Int) (w : World) (hlen : zs.length ≤ 5000) (h1 : Src w a1 cap1 zs) (h2 : Src w a2 cap2 zs) :
    Calls Ybaf.prog 8 #[.slice a1 zs.length cap1, .slice a2 zs.length cap2] w fun e w' => e = .returned (.bool true) ∧ Kept (fun _ => False) w w' := by
  by_cases h0 : zs.length = 0
  · rw [h0]
    refine (eq_none a1 a2 cap1 cap2 w).mono ?_
    rintro e w' ⟨rfl, rfl⟩
    exact ⟨rfl, Kept.refl _ _⟩
  · rcases h1 with ⟨_, rfl, _⟩ | ⟨x1, rfl, h1⟩
    · simp at h0
    rcases h2 with ⟨_, rfl, _⟩ | ⟨x2, rfl, h2⟩
    · simp at h0
    obtain ⟨b1, o1, rfl, h1'⟩ := ints_at h1 (by omega)
    obtain ⟨b2, o2, rfl, h2'⟩ := ints_at h2 (by omega)
    exact eq_cells b1 o1 cap1 b2 o2 cap2 zs w hlen (by omega) h1' h2'
end Go.Proofs.YbulkhmiFmt
