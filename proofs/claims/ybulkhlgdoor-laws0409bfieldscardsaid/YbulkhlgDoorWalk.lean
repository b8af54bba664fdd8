/-
  LawS0409BFields and what she calls, walked.
-/
import Derived.Test.YbulkhlgDoorTable
import Derived.WalkKit
import Derived.WalkSpells
import Derived.RegionTactic
namespace Go.Proofs.YbulkhlgDoor
open Go.RowKit
set_option linter.unusedVariables false

/-- zzs0409bcode gives some string, and touches nothing. -/
theorem code_any (sel : Int) (raw : ByteArray) (w : World) (h : 0 ≤ sel ∧ sel ≤ 255) :
    Calls Ybad.prog 4 #[.int .u8 sel, .string raw] w fun e w' => (∃ s, e = .returned (.string s)) ∧ w' = w := by
  go_enter Ybad.func4, Ybad.ntmps4
  go_wp2
  all_goals (go_ret; exact ⟨⟨_, rfl⟩, rfl⟩)

/-- A string of these bytes. -/
abbrev str (l : Bs) : Value := .string ⟨l.toArray⟩

theorem ret_pair {l l' : Bs} {b b' : Bool} (h : (l, b) = (l', b')) : Ending.returned (.tuple #[str l, .bool b]) = .returned (.tuple #[str l', .bool b']) := by
  simp only [Prod.mk.injEq] at h
  rw [h.1, h.2]

set_option maxHeartbeats 400000 in
theorem expect_any (s : ByteArray) (w : World) :
    Calls Ybad.prog 6 #[.string s] w fun e w' => e = .returned (.tuple #[str (first rows s.toList).1, .bool (first rows s.toList).2]) ∧ w' = w := by
  go_enter Ybad.func6, Ybad.ntmps6
  go_wp2
  all_goals go_ret2
  all_goals exact ⟨ret_pair (by simp [first, rows, *]), rfl⟩

theorem new_block (w : World) (o : Obj) : (w.alloc o).heap[w.heap.size]? = some o := by
  show (w.heap.push o)[w.heap.size]? = some o
  simp

/-- The finding's block, whole. -/
def FBlock (w : World) (fb : Nat) (lv : Bs) (s id : ByteArray) (hs : Bool) (src rea : ByteArray) : Prop :=
  w.heap[fb]? = some (.cells #[str lv, .string s, .string id, .bool hs, .string src, .string rea] 26 (0, 0))

/-- What the listed table holds, cell by cell. -/
def TabIs (w : World) (tb to : Nat) : Prop :=
  ∀ k (h : k < rows.length), w.cell? ⟨tb, to + k * 3, none⟩ = some (str rows[k].1) ∧ w.cell? ⟨tb, to + k * 3 + 1, none⟩ = some (str rows[k].2.1) ∧ w.cell? ⟨tb, to + k * 3 + 2, none⟩ = some (.bool rows[k].2.2)

theorem FBlock.alloc {w : World} {fb : Nat} {lv : Bs} {s id : ByteArray} {hs : Bool} {src rea : ByteArray} (h : FBlock w fb lv s id hs src rea) (o : Obj) : FBlock (w.alloc o) fb lv s id hs src rea := by
  have hlt : fb < w.heap.size := (Array.getElem?_eq_some_iff.1 h).1
  exact (Below.heap_alloc w o fb hlt).trans h
theorem FBlock.set {w : World} {fb : Nat} {lv : Bs} {s id : ByteArray} {hs : Bool} {src rea : ByteArray} (h : FBlock w fb lv s id hs src rea) (lv' : Bs) (hs' : Bool) :
    FBlock ((w.setCell ⟨fb, 0, none⟩ (str lv')).setCell ⟨fb, 3, none⟩ (.bool hs')) fb lv' s id hs' src rea :=
  heap_setCell_same _ fb 3 _ 26 _ (heap_setCell_same _ fb 0 _ 26 _ h)
theorem FBlock.other {w : World} {fb : Nat} {lv : Bs} {s id : ByteArray} {hs : Bool} {src rea : ByteArray} (h : FBlock w fb lv s id hs src rea) (p : Addr) (hp : fb ≠ p.block) (u : Value) : FBlock (w.setCell p u) fb lv s id hs src rea :=
  (Below.heap_setCell w p u fb hp).trans h
theorem FBlock.cells {w : World} {fb : Nat} {lv : Bs} {s id : ByteArray} {hs : Bool} {src rea : ByteArray} (h : FBlock w fb lv s id hs src rea) :
    w.cell? ⟨fb, 0, none⟩ = some (str lv) ∧ w.cell? ⟨fb, 1, none⟩ = some (.string s) ∧ w.cell? ⟨fb, 2, none⟩ = some (.string id) ∧ w.cell? ⟨fb, 3, none⟩ = some (.bool hs) ∧ w.cell? ⟨fb, 4, none⟩ = some (.string src) ∧ w.cell? ⟨fb, 5, none⟩ = some (.string rea) :=
  ⟨cell_of_row w fb 0 _ _ _ h, cell_of_row w fb 1 _ _ _ h, cell_of_row w fb 2 _ _ _ h, cell_of_row w fb 3 _ _ _ h, cell_of_row w fb 4 _ _ _ h, cell_of_row w fb 5 _ _ _ h⟩
theorem FBlock.free {w : World} {fb : Nat} {lv : Bs} {s id : ByteArray} {hs : Bool} {src rea : ByteArray} (h : FBlock w fb lv s id hs src rea) (o : Nat) : w.frozen? ⟨fb, o, none⟩ = false := frozen_of_row w fb o _ _ h

set_option maxHeartbeats 1000000 in
theorem finding_any (s id src rea : ByteArray) (tb to cap : Nat) (w : World) (hv : w.cell? ⟨0, 0, none⟩ = some (.slice (some ⟨tb, to, none⟩) 8 cap)) (hT : TabIs w tb to) (h0 : 0 < w.heap.size) :
    Calls Ybad.prog 5 #[.string s, .string id, .string src, .string rea] w fun e w' =>
      e = .returned (.agg #[str (first rows s.toList).1, .string s, .string id, .bool (first rows s.toList).2, .string src, .string rea]) ∧ Below w.heap.size w w' := by
  have htb : tb < w.heap.size := World.block_lt_of_cell? w _ (hT 0 (by decide)).1
  have HT : Hid (TabIs w tb to) := hT
  clear hT
  go_enter Ybad.func5, Ybad.ntmps5
  go_wp2
  go_loopw [19] (fun i wr => ∃ k : Nat, k ≤ 8 ∧ i = .int .i64 k ∧ Below w.heap.size w wr ∧ Hid (FBlock wr (w.heap.size + 1) (sofar s.toList k).1 s id (sofar s.toList k).2 src rea) ∧ Hid (FBlock wr w.heap.size [] ⟨#[]⟩ ⟨#[]⟩ false ⟨#[]⟩ ⟨#[]⟩) ∧ w.heap.size + 1 < wr.heap.size) (fun i _ => 8 - (intOf i).toNat)
  case atStart =>
    refine ⟨0, Nat.zero_le _, rfl, ((Below.refl _ _).alloc (Nat.le_refl _) _).alloc (by simp) _, ?_, ?_, by simp⟩
    · show (World.alloc _ _).heap[w.heap.size + 1]? = _
      rw [show w.heap.size + 1 = (w.alloc _).heap.size from (World.size_alloc _ _).symm]
      exact new_block _ _
    · exact (FBlock.alloc (fb := w.heap.size) (new_block _ _) _)
  case round =>
    obtain ⟨k, hk, rfl, hbel, HF, HZ, hsz⟩ := hrel
    by_cases hlt : k < 8
    · obtain ⟨t0, t1, t2⟩ := HT.out k hlt
      have c0 := (hbel.cell (p := ⟨tb, to + k * 3, none⟩) htb).trans t0
      have c1 := (hbel.cell (p := ⟨tb, to + k * 3 + 1, none⟩) htb).trans t1
      have c2 := (hbel.cell (p := ⟨tb, to + k * 3 + 2, none⟩) htb).trans t2
      have hss := sofar_succ s.toList k hlt
      obtain ⟨⟨rc, rl, rh⟩, hrow⟩ : ∃ r, r = rows[k] := ⟨_, rfl⟩
      rw [← hrow] at c0 c1 c2 hss
      have HSS : Hid (sofar s.toList (k + 1) = if rc == s.toList then (rl, rh) else sofar s.toList k) := hss
      clear t0 t1 t2 hss hrow
      dsimp only at c0 c1 c2
      obtain ⟨f0, f1, f2, f3, f4, f5⟩ := HF.out.cells
      have z0 := HF.out.free 0
      have z3 := HF.out.free 3
      by_cases hq : (rc == s.toList) = true
      · have HS1 : Hid (sofar s.toList (k + 1) = (rl, rh)) := by unfold Hid; have := HSS.out; rw [hq] at this; simpa using this
        clear HSS
        go_wp2
        go_region
        go_wp2
        go_roundw
        case rel => exact ⟨k + 1, by omega, by go_num, (((hbel.setCell (p := ⟨w.heap.size + 1, 0, none⟩) (by simp) _).setCell (p := ⟨w.heap.size + 1, 3, none⟩) (by simp) _).alloc (by simp; omega) _).drew, by unfold Hid; rw [HS1.out]; exact (HF.out.set rl rh).alloc _, ((HZ.out.other ⟨w.heap.size + 1, 0, none⟩ (by simp) _).other ⟨w.heap.size + 1, 3, none⟩ (by simp) _).alloc _, by simp; omega⟩
        case measure => simp [intOf]; omega
      · have hq' : (rc == s.toList) = false := by simpa using hq
        have HS1 : Hid (sofar s.toList (k + 1) = sofar s.toList k) := by unfold Hid; have := HSS.out; rw [hq'] at this; simpa using this
        clear HSS hq
        go_wp2
        go_roundw
        case rel => exact ⟨k + 1, by omega, by go_num, hbel.alloc (by omega) _, by unfold Hid; rw [HS1.out]; exact HF.out.alloc _, HZ.out.alloc _, by simp; omega⟩
        case measure => simp [intOf]; omega
    · obtain ⟨f0, f1, f2, f3, f4, f5⟩ := HF.out.cells
      obtain ⟨g0, g1, g2, g3, g4, g5⟩ := HZ.out.cells
      have z0 := HZ.out.free 0
      have z1 := HZ.out.free 1
      have z2 := HZ.out.free 2
      have z3 := HZ.out.free 3
      have z4 := HZ.out.free 4
      have z5 := HZ.out.free 5
      have hk8 : k = 8 := by omega
      subst hk8
      rw [sofar_all] at f0 f3
      clear HF
      go_wp2
      exact bodyPost_ret (v := .agg #[str (first rows s.toList).1, .string s, .string id, .bool (first rows s.toList).2, .string src, .string rea]) (by simp [results, Ybad.results5, go_sem, g0, g1, g2, g3, g4, g5]) rfl ⟨rfl, (((((hbel.setCell (p := ⟨w.heap.size, 0, none⟩) (Nat.le_refl _) _).setCell (p := ⟨w.heap.size, 1, none⟩) (Nat.le_refl _) _).setCell (p := ⟨w.heap.size, 2, none⟩) (Nat.le_refl _) _).setCell (p := ⟨w.heap.size, 3, none⟩) (Nat.le_refl _) _).setCell (p := ⟨w.heap.size, 4, none⟩) (Nat.le_refl _) _).setCell (p := ⟨w.heap.size, 5, none⟩) (Nat.le_refl _) _⟩

set_option maxHeartbeats 1000000 in
theorem law_any (sel : Int) (raw id src rea : ByteArray) (tb to cap : Nat) (w : World) (hs : 0 ≤ sel ∧ sel ≤ 255) (hv : w.cell? ⟨0, 0, none⟩ = some (.slice (some ⟨tb, to, none⟩) 8 cap)) (hT : TabIs w tb to) (h0 : 0 < w.heap.size) :
    Calls Ybad.prog 3 #[.int .u8 sel, .string raw, .string id, .string src, .string rea] w fun e w' => e = .returned (.bool true) ∧ Below w.heap.size w w' := by
  have HV : Hid (w.cell? ⟨0, 0, none⟩ = some (.slice (some ⟨tb, to, none⟩) 8 cap)) := hv
  have HT : Hid (TabIs w tb to) := hT
  clear hv hT
  go_enter Ybad.func3, Ybad.ntmps3
  go_wp2_with fail
  refine (code_any _ _ _ hs).mono ?_
  rintro e w1 ⟨⟨s, rfl⟩, rfl⟩
  go_wp2_with fail
  refine (finding_any _ _ _ _ tb to cap _ HV.out HT.out h0).mono ?_
  rintro e w2 ⟨rfl, hbel⟩
  go_wp2_with fail
  refine (expect_any _ _).mono ?_
  rintro e w3 ⟨rfl, rfl⟩
  go_wp2
  go_ret
  exact ⟨rfl, hbel.alloc hbel.size _⟩
end Go.Proofs.YbulkhlgDoor
