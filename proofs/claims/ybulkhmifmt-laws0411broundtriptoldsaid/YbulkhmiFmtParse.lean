/-
  binary.BigEndian's Uint32, Uint16; ParseNotify: walked.
-/
import Derived.Test.YbulkhmiFmtAppend
import Derived.WalkSpells
import Derived.RegionTactic
import Derived.Deep.RegionWith
import Derived.Deep.RegionHeld
import Derived.Lib.EndianBits
namespace Go.Proofs.YbulkhmiFmt
open Go.RowKit
set_option linter.unusedVariables false

theorem ret_int {k : IntKind} {a b : Int} (h : a = b) : Ending.returned (.int k a) = .returned (.int k b) := by rw [h]

set_option maxHeartbeats 1000000 in
theorem get32 (g o n c : Nat) (b0 b1 b2 b3 : Int) (w : World) (hn : 4 ≤ n) (hm : n ≤ 5000) (h0 : 0 ≤ b0 ∧ b0 ≤ 255) (h1 : 0 ≤ b1 ∧ b1 ≤ 255) (h2 : 0 ≤ b2 ∧ b2 ≤ 255) (h3 : 0 ≤ b3 ∧ b3 ≤ 255)
    (c0 : w.cell? ⟨g, o, none⟩ = some (.int .u8 b0)) (c1 : w.cell? ⟨g, o + 1, none⟩ = some (.int .u8 b1)) (c2 : w.cell? ⟨g, o + 2, none⟩ = some (.int .u8 b2)) (c3 : w.cell? ⟨g, o + 3, none⟩ = some (.int .u8 b3)) :
    Calls Ybaf.prog 13 #[.agg #[], .slice (some ⟨g, o, none⟩) n c] w fun e w' => e = .returned (.int .u32 (b3 + b2 * 256 + b1 * 65536 + b0 * 16777216)) ∧ w' = (w.alloc (.cells #[] 44)).drew := by
  have hb : g < w.heap.size := World.block_lt_of_cell? w _ c0
  have i0 : (0 : Int) < (n : Int) := by omega
  have i1 : (1 : Int) < (n : Int) := by omega
  have i2 : (2 : Int) < (n : Int) := by omega
  have i3 : (3 : Int) < (n : Int) := by omega
  go_enter Ybaf.func13, Ybaf.ntmps13
  go_wp2
  go_region
  go_wp2
  go_ret
  refine ⟨ret_int ?_, rfl⟩
  simp (disch := omega) only [u32_or8, u32_or16, u32_or24]

set_option maxHeartbeats 1000000 in
theorem get16 (g o n c : Nat) (b0 b1 : Int) (w : World) (hn : 2 ≤ n) (hm : n ≤ 5000) (h0 : 0 ≤ b0 ∧ b0 ≤ 255) (h1 : 0 ≤ b1 ∧ b1 ≤ 255)
    (c0 : w.cell? ⟨g, o, none⟩ = some (.int .u8 b0)) (c1 : w.cell? ⟨g, o + 1, none⟩ = some (.int .u8 b1)) :
    Calls Ybaf.prog 14 #[.agg #[], .slice (some ⟨g, o, none⟩) n c] w fun e w' => e = .returned (.int .u16 (b1 + b0 * 256)) ∧ w' = (w.alloc (.cells #[] 44)).drew := by
  have hb : g < w.heap.size := World.block_lt_of_cell? w _ c0
  have i0 : (0 : Int) < (n : Int) := by omega
  have i1 : (1 : Int) < (n : Int) := by omega
  go_enter Ybaf.func14, Ybaf.ntmps14
  go_wp2
  go_region
  go_wp2
  go_ret
  refine ⟨ret_int ?_, rfl⟩
  simp (disch := omega) only [u16_or8]

theorem keep2 {w : World} {p : Addr} {v : Value} (h : w.cell? p = some v) (hp : p.block < w.heap.size) (o1 o2 : Obj) : ((w.alloc o1).alloc o2).drew.drew.cell? p = some v :=
  ((((((Below.refl w.heap.size w).alloc (Nat.le_refl _) o1).alloc (by simp) o2).drew).drew).cell hp).trans h
theorem keep3 {w : World} {p : Addr} {v : Value} (h : w.cell? p = some v) (hp : p.block < w.heap.size) (o1 o2 o3 : Obj) : (((w.alloc o1).alloc o2).alloc o3).drew.drew.drew.cell? p = some v :=
  (((((((Below.refl w.heap.size w).alloc (Nat.le_refl _) o1).alloc (by simp) o2).alloc (by simp; omega) o3).drew).drew).drew.cell hp).trans h

/-- What ParseNotify hands back: the fields; where the two slices lie. -/
def Parsed (g n cap E : Nat) (doi proto typ : Int) (w : World) (e : Ending) (w' : World) : Prop :=
  (∃ x y : Addr, e = .returned (.tuple #[.agg #[.int .u32 doi, .int .u8 proto, .slice (some x) (E - 8) (E - 8), .int .u16 typ, .slice (some y) (n - E) (cap - E)], .nilIface]) ∧ (8 < E → x = ⟨g, 8, none⟩) ∧ (E < n → y = ⟨g, E, none⟩)) ∧ Below w.heap.size w w'

/-- The two calls inside the statement, in whatever world behind the call's start. -/
def Reads (g cap : Nat) (doi typ : Int) (w : World) : Prop :=
  (∀ wx, Below w.heap.size w wx → Calls Ybaf.prog 13 #[.agg #[], .slice (some ⟨g, 0, none⟩) 4 cap] wx fun e w' => e = .returned (.int .u32 doi) ∧ w' = (wx.alloc (.cells #[] 44)).drew) ∧
  (∀ wx, Below w.heap.size w wx → Calls Ybaf.prog 14 #[.agg #[], .slice (some ⟨g, 6, none⟩) 2 (cap - 6)] wx fun e w' => e = .returned (.int .u16 typ) ∧ w' = (wx.alloc (.cells #[] 44)).drew)

theorem reads_of (g cap : Nat) (doi typ : Int) (w : World) (hdoi : 0 ≤ doi ∧ doi ≤ 4294967295) (htyp : 0 ≤ typ ∧ typ ≤ 65535)
    (c0 : w.cell? ⟨g, 0, none⟩ = some (.int .u8 (doi / 16777216))) (c1 : w.cell? ⟨g, 1, none⟩ = some (.int .u8 (doi / 65536 % 256))) (c2 : w.cell? ⟨g, 2, none⟩ = some (.int .u8 (doi / 256 % 256))) (c3 : w.cell? ⟨g, 3, none⟩ = some (.int .u8 (doi % 256)))
    (c6 : w.cell? ⟨g, 6, none⟩ = some (.int .u8 (typ / 256))) (c7 : w.cell? ⟨g, 7, none⟩ = some (.int .u8 (typ % 256))) : Reads g cap doi typ w := by
  have hb : g < w.heap.size := World.block_lt_of_cell? w _ c0
  refine ⟨fun wx hx => ?_, fun wx hx => ?_⟩
  · refine (get32 g 0 4 cap (doi / 16777216) (doi / 65536 % 256) (doi / 256 % 256) (doi % 256) wx (by omega) (by omega) (by omega) (by omega) (by omega) (by omega) ((hx.cell (p := ⟨g, 0, none⟩) hb).trans c0) ((hx.cell (p := ⟨g, 1, none⟩) hb).trans c1) ((hx.cell (p := ⟨g, 2, none⟩) hb).trans c2) ((hx.cell (p := ⟨g, 3, none⟩) hb).trans c3)).mono ?_
    rintro e w' ⟨rfl, rfl⟩
    exact ⟨ret_int (by omega), rfl⟩
  · refine (get16 g 6 2 (cap - 6) (typ / 256) (typ % 256) wx (by omega) (by omega) (by omega) (by omega) ((hx.cell (p := ⟨g, 6, none⟩) hb).trans c6) ((hx.cell (p := ⟨g, 7, none⟩) hb).trans c7)).mono ?_
    rintro e w' ⟨rfl, rfl⟩
    exact ⟨ret_int (by omega), rfl⟩

set_option maxHeartbeats 2000000 in
/-- An SPI, and room behind it. -/
theorem parse_a (g n cap E : Nat) (doi proto typ k : Int) (w : World) (hk : 8 + k = (E : Int)) (hk0 : 0 ≤ k ∧ k ≤ 255) (hE : 8 < E) (hn : E ≤ n) (hm : n ≤ 5000) (hcap : n ≤ cap) (hEc : ¬ cap = E)
    (U : Hid (Reads g cap doi typ w)) (c4 : w.cell? ⟨g, 4, none⟩ = some (.int .u8 proto)) (c5 : w.cell? ⟨g, 5, none⟩ = some (.int .u8 k)) :
    Calls Ybaf.prog 9 #[.slice (some ⟨g, 0, none⟩) n cap] w (Parsed g n cap E doi proto typ w) := by
  have hb : g < w.heap.size := World.block_lt_of_cell? w _ c4
  have i4 : (4 : Int) ≤ (cap : Int) := by omega
  have i8 : (8 : Int) ≤ (cap : Int) := by omega
  have iE : (8 : Int) ≤ (E : Int) := by omega
  have iEn : (E : Int) ≤ (n : Int) := by omega
  have iEc : (E : Int) ≤ (cap : Int) := by omega
  have j4 : (4 : Int) < (n : Int) := by omega
  have n6 : ¬ cap = 6 := by omega
  have nE : ¬ E = 8 := by omega
  go_enter Ybaf.func9, Ybaf.ntmps9
  go_wp2
  clear c5
  go_region_held (fun w' => w'.cell? ⟨g, 4, none⟩ = some (.int .u8 proto)) (first | (with_reducible exact keep3 c4 hb _ _ _) | (with_reducible exact keep2 c4 hb _ _) | (go_keep; done)) (first | (go_at_call 13; refine (U.out.1 _ ?_).mono ?_; (repeat (first | (with_reducible exact Below.refl _ _) | (with_reducible refine Below.drew ?_) | (with_reducible refine Below.alloc ?_ (by simp) _))); rintro e w' ⟨rfl, rfl⟩) | (go_at_call 14; refine (U.out.2 _ ?_).mono ?_; (repeat (first | (with_reducible exact Below.refl _ _) | (with_reducible refine Below.drew ?_) | (with_reducible refine Below.alloc ?_ (by simp) _) | (with_reducible refine Below.alloc ?_ (by simp; omega) _))); rintro e w' ⟨rfl, rfl⟩))
  go_wp2
  exact bodyPost_ret (v := .tuple #[.agg #[.int .u32 doi, .int .u8 proto, .slice (some ⟨g, 8, none⟩) (E - 8) (E - 8), .int .u16 typ, .slice (some ⟨g, E, none⟩) (n - E) (cap - E)], .nilIface]) (by simp [results, Ybaf.results9, go_sem]) rfl ⟨⟨⟨g, 8, none⟩, ⟨g, E, none⟩, rfl, fun h => rfl, fun h => rfl⟩, ((((((Below.refl _ w).alloc (Nat.le_refl _) _).alloc (by simp) _).alloc (by simp; omega) _).drew).drew).drew⟩

set_option maxHeartbeats 2000000 in
/-- An SPI, and no room behind it. -/
theorem parse_b (g E : Nat) (doi proto typ k : Int) (w : World) (hk : 8 + k = (E : Int)) (hk0 : 0 ≤ k ∧ k ≤ 255) (hE : 8 < E)
    (U : Hid (Reads g E doi typ w)) (c4 : w.cell? ⟨g, 4, none⟩ = some (.int .u8 proto)) (c5 : w.cell? ⟨g, 5, none⟩ = some (.int .u8 k)) :
    Calls Ybaf.prog 9 #[.slice (some ⟨g, 0, none⟩) E E] w (Parsed g E E E doi proto typ w) := by
  have hb : g < w.heap.size := World.block_lt_of_cell? w _ c4
  have i4 : (4 : Int) ≤ (E : Int) := by omega
  have i8 : (8 : Int) ≤ (E : Int) := by omega
  have j4 : (4 : Int) < (E : Int) := by omega
  have n6 : ¬ E = 6 := by omega
  have nE : ¬ E = 8 := by omega
  go_enter Ybaf.func9, Ybaf.ntmps9
  go_wp2
  clear c5
  go_region_held (fun w' => w'.cell? ⟨g, 4, none⟩ = some (.int .u8 proto)) (first | (with_reducible exact keep3 c4 hb _ _ _) | (with_reducible exact keep2 c4 hb _ _) | (go_keep; done)) (first | (go_at_call 13; refine (U.out.1 _ ?_).mono ?_; (repeat (first | (with_reducible exact Below.refl _ _) | (with_reducible refine Below.drew ?_) | (with_reducible refine Below.alloc ?_ (by simp) _))); rintro e w' ⟨rfl, rfl⟩) | (go_at_call 14; refine (U.out.2 _ ?_).mono ?_; (repeat (first | (with_reducible exact Below.refl _ _) | (with_reducible refine Below.drew ?_) | (with_reducible refine Below.alloc ?_ (by simp) _) | (with_reducible refine Below.alloc ?_ (by simp; omega) _))); rintro e w' ⟨rfl, rfl⟩))
  go_wp2
  exact bodyPost_ret (v := .tuple #[.agg #[.int .u32 doi, .int .u8 proto, .slice (some ⟨g, 8, none⟩) (E - 8) (E - 8), .int .u16 typ, .slice (some ⟨g, 0, none⟩) (E - E) (E - E)], .nilIface]) (by simp [results, Ybaf.results9, go_sem]) rfl ⟨⟨⟨g, 8, none⟩, ⟨g, 0, none⟩, rfl, fun h => rfl, fun h => absurd h (Nat.lt_irrefl _)⟩, ((((((Below.refl _ w).alloc (Nat.le_refl _) _).alloc (by simp) _).alloc (by simp; omega) _).drew).drew).drew⟩

set_option maxHeartbeats 2000000 in
/-- No SPI, and room behind the fixed fields. -/
theorem parse_c (g n cap : Nat) (doi proto typ : Int) (w : World) (hn : 8 ≤ n) (hm : n ≤ 5000) (hcap : n ≤ cap) (hEc : ¬ cap = 8)
    (U : Hid (Reads g cap doi typ w)) (c4 : w.cell? ⟨g, 4, none⟩ = some (.int .u8 proto)) (c5 : w.cell? ⟨g, 5, none⟩ = some (.int .u8 0)) :
    Calls Ybaf.prog 9 #[.slice (some ⟨g, 0, none⟩) n cap] w (Parsed g n cap 8 doi proto typ w) := by
  have hb : g < w.heap.size := World.block_lt_of_cell? w _ c4
  have i4 : (4 : Int) ≤ (cap : Int) := by omega
  have i8 : (8 : Int) ≤ (cap : Int) := by omega
  have iEn : (8 : Int) ≤ (n : Int) := by omega
  have j4 : (4 : Int) < (n : Int) := by omega
  have n6 : ¬ cap = 6 := by omega
  go_enter Ybaf.func9, Ybaf.ntmps9
  go_wp2
  clear c5
  go_region_held (fun w' => w'.cell? ⟨g, 4, none⟩ = some (.int .u8 proto)) (first | (with_reducible exact keep3 c4 hb _ _ _) | (with_reducible exact keep2 c4 hb _ _) | (go_keep; done)) (first | (go_at_call 13; refine (U.out.1 _ ?_).mono ?_; (repeat (first | (with_reducible exact Below.refl _ _) | (with_reducible refine Below.drew ?_) | (with_reducible refine Below.alloc ?_ (by simp) _))); rintro e w' ⟨rfl, rfl⟩) | (go_at_call 14; refine (U.out.2 _ ?_).mono ?_; (repeat (first | (with_reducible exact Below.refl _ _) | (with_reducible refine Below.drew ?_) | (with_reducible refine Below.alloc ?_ (by simp) _) | (with_reducible refine Below.alloc ?_ (by simp; omega) _))); rintro e w' ⟨rfl, rfl⟩))
  go_wp2
  exact bodyPost_ret (v := .tuple #[.agg #[.int .u32 doi, .int .u8 proto, .slice (some ⟨g, 0, none⟩) 0 0, .int .u16 typ, .slice (some ⟨g, 8, none⟩) (n - 8) (cap - 8)], .nilIface]) (by simp [results, Ybaf.results9, go_sem]) rfl ⟨⟨⟨g, 0, none⟩, ⟨g, 8, none⟩, rfl, fun h => absurd h (Nat.lt_irrefl _), fun h => rfl⟩, ((((((Below.refl _ w).alloc (Nat.le_refl _) _).alloc (by simp) _).alloc (by simp; omega) _).drew).drew).drew⟩

set_option maxHeartbeats 2000000 in
/-- No SPI, and no room. -/
theorem parse_d (g : Nat) (doi proto typ : Int) (w : World)
    (U : Hid (Reads g 8 doi typ w)) (c4 : w.cell? ⟨g, 4, none⟩ = some (.int .u8 proto)) (c5 : w.cell? ⟨g, 5, none⟩ = some (.int .u8 0)) :
    Calls Ybaf.prog 9 #[.slice (some ⟨g, 0, none⟩) 8 8] w (Parsed g 8 8 8 doi proto typ w) := by
  have hb : g < w.heap.size := World.block_lt_of_cell? w _ c4
  go_enter Ybaf.func9, Ybaf.ntmps9
  go_wp2
  clear c5
  go_region_held (fun w' => w'.cell? ⟨g, 4, none⟩ = some (.int .u8 proto)) (first | (with_reducible exact keep3 c4 hb _ _ _) | (with_reducible exact keep2 c4 hb _ _) | (go_keep; done)) (first | (go_at_call 13; refine (U.out.1 _ ?_).mono ?_; (repeat (first | (with_reducible exact Below.refl _ _) | (with_reducible refine Below.drew ?_) | (with_reducible refine Below.alloc ?_ (by simp) _))); rintro e w' ⟨rfl, rfl⟩) | (go_at_call 14; refine (U.out.2 _ ?_).mono ?_; (repeat (first | (with_reducible exact Below.refl _ _) | (with_reducible refine Below.drew ?_) | (with_reducible refine Below.alloc ?_ (by simp) _) | (with_reducible refine Below.alloc ?_ (by simp; omega) _))); rintro e w' ⟨rfl, rfl⟩))
  go_wp2
  exact bodyPost_ret (v := .tuple #[.agg #[.int .u32 doi, .int .u8 proto, .slice (some ⟨g, 0, none⟩) 0 0, .int .u16 typ, .slice (some ⟨g, 0, none⟩) 0 0], .nilIface]) (by simp [results, Ybaf.results9, go_sem]) rfl ⟨⟨⟨g, 0, none⟩, ⟨g, 0, none⟩, rfl, fun h => absurd h (Nat.lt_irrefl _), fun h => absurd h (Nat.lt_irrefl _)⟩, ((((((Below.refl _ w).alloc (Nat.le_refl _) _).alloc (by simp) _).alloc (by simp; omega) _).drew).drew).drew⟩


theorem parse_ok (g n cap E : Nat) (doi proto typ k : Int) (w : World) (hdoi : 0 ≤ doi ∧ doi ≤ 4294967295) (htyp : 0 ≤ typ ∧ typ ≤ 65535) (hk : 8 + k = (E : Int)) (hk0 : 0 ≤ k ∧ k ≤ 255) (hn : E ≤ n) (hm : n ≤ 5000) (hcap : n ≤ cap)
    (c0 : w.cell? ⟨g, 0, none⟩ = some (.int .u8 (doi / 16777216))) (c1 : w.cell? ⟨g, 1, none⟩ = some (.int .u8 (doi / 65536 % 256))) (c2 : w.cell? ⟨g, 2, none⟩ = some (.int .u8 (doi / 256 % 256))) (c3 : w.cell? ⟨g, 3, none⟩ = some (.int .u8 (doi % 256)))
    (c4 : w.cell? ⟨g, 4, none⟩ = some (.int .u8 proto)) (c5 : w.cell? ⟨g, 5, none⟩ = some (.int .u8 k)) (c6 : w.cell? ⟨g, 6, none⟩ = some (.int .u8 (typ / 256))) (c7 : w.cell? ⟨g, 7, none⟩ = some (.int .u8 (typ % 256))) :
    Calls Ybaf.prog 9 #[.slice (some ⟨g, 0, none⟩) n cap] w (Parsed g n cap E doi proto typ w) := by
  have U : Hid (Reads g cap doi typ w) := reads_of g cap doi typ w hdoi htyp c0 c1 c2 c3 c6 c7
  by_cases hE : E = 8
  · subst hE
    obtain rfl : k = 0 := by omega
    by_cases hc : cap = 8
    · subst hc
      obtain rfl : n = 8 := by omega
      exact parse_d g doi proto typ w U c4 c5
    · exact parse_c g n cap doi proto typ w hn hm hcap hc U c4 c5
  · by_cases hc : cap = E
    · subst hc
      obtain rfl : n = cap := by omega
      exact parse_b g n doi proto typ k w hk hk0 (by omega) U c4 c5
    · exact parse_a g n cap E doi proto typ k w hk hk0 (by omega) hn hm hcap hc U c4 c5
end Go.Proofs.YbulkhmiFmt
