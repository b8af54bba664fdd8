/-
  LawS0411BRoundTrip, walked.
-/
import Derived.Test.YbulkhmiFmtParse
import Derived.Test.YbulkhmiFmtExact
namespace Go.Proofs.YbulkhmiFmt
open Go.RowKit
set_option linter.unusedVariables false

theorem Src.kept {w w' : World} {a : Option Addr} {cap : Nat} {zs : List Int} (h : Src w a cap zs) (k : Kept (fun _ => False) w w') : Src w' a cap zs :=
  h.below (k.below (Below.refl w.heap.size w) (Nat.le_refl _) (fun i h => h.elim)) h.low

theorem some_shape {w : World} {base : Nat} {v : Value} {n : Nat} {xs : List Value} (h : w.ownsRow base 5 1 v n xs) (hn : 0 < n) : ∃ g cap, v = .slice (some ⟨g, 0, none⟩) n cap ∧ n ≤ cap ∧ base ≤ g := by
  rcases h.2 with ⟨_, rfl⟩ | ⟨g, cap, _, rfl, hb, _, hc, _⟩
  · omega
  · exact ⟨g, cap, rfl, hc, hb⟩

theorem own_at {w : World} {base g n cap : Nat} {xs : List Int} (h : w.ownsRow base 5 1 (.slice (some ⟨g, 0, none⟩) n cap) n (bytes xs)) (i : Nat) (hi : i < n) : w.cell? ⟨g, i, none⟩ = some (.int .u8 (xs[i]?.getD 0)) := by
  have hx : i < xs.length := by have := h.1; simp at this; omega
  rw [h.cellAt i (by omega)]
  simp [hx]

/-- A part of an owned row as a source. -/
theorem part_src {w : World} {base g n cap : Nat} {xs : List Int} (h : w.ownsRow base 5 1 (.slice (some ⟨g, 0, none⟩) n cap) n (bytes xs)) (x : Addr) (c lo : Nat) (zs : List Int) (hz : ∀ i, i < zs.length → xs[lo + i]?.getD 0 = zs.getD i 0) (hl : lo + zs.length ≤ n) (hx : 0 < zs.length → x = ⟨g, lo, none⟩) : Src w (some x) c zs := by
  refine .inr ⟨x, rfl, fun i hi => ?_⟩
  obtain rfl := hx (by omega)
  rw [show (⟨g, lo, none⟩ : Addr).add i = ⟨g, lo + i, none⟩ from by unfold Addr.add; split <;> simp_all, own_at h (lo + i) (by omega), hz i hi]

theorem wire_cells (doi proto typ : Int) (spi data : List Int) : (wire doi proto typ spi data)[0]?.getD 0 = doi / 16777216 ∧ (wire doi proto typ spi data)[1]?.getD 0 = doi / 65536 % 256 ∧ (wire doi proto typ spi data)[2]?.getD 0 = doi / 256 % 256 ∧ (wire doi proto typ spi data)[3]?.getD 0 = doi % 256 ∧
    (wire doi proto typ spi data)[4]?.getD 0 = proto ∧ (wire doi proto typ spi data)[5]?.getD 0 = (spi.length : Int) ∧ (wire doi proto typ spi data)[6]?.getD 0 = typ / 256 ∧ (wire doi proto typ spi data)[7]?.getD 0 = typ % 256 := by
  simp [wire, be32, be16]
theorem wire_spi (doi proto typ : Int) (spi data : List Int) (i : Nat) (h : i < spi.length) : (wire doi proto typ spi data)[8 + i]?.getD 0 = spi.getD i 0 := by
  have e : wire doi proto typ spi data = (be32 doi ++ [proto, (spi.length : Int)] ++ be16 typ) ++ (spi ++ data) := by simp [wire]
  rw [e, List.getElem?_append_right (by simp [be32, be16])]
  have e2 : 8 + i - (be32 doi ++ [proto, (spi.length : Int)] ++ be16 typ).length = i := by simp [be32, be16]
  rw [e2, List.getElem?_append_left h]
  rfl
theorem wire_data (doi proto typ : Int) (spi data : List Int) (i : Nat) (h : i < data.length) : (wire doi proto typ spi data)[8 + spi.length + i]?.getD 0 = data.getD i 0 := by
  have e : wire doi proto typ spi data = (be32 doi ++ [proto, (spi.length : Int)] ++ be16 typ ++ spi) ++ data := by simp [wire]
  rw [e, List.getElem?_append_right (by simp [be32, be16]; omega)]
  have e2 : 8 + spi.length + i - (be32 doi ++ [proto, (spi.length : Int)] ++ be16 typ ++ spi).length = i := by simp [be32, be16]; omega
  rw [e2]
  rfl

/-- WHAT STANDS BEHIND BOTH CALLS: the parts that came back read as the parts that went in. -/
theorem back_src {w2 w3 : World} {base g n cap : Nat} (doi proto typ : Int) (s data : List Int) (hown : w2.ownsRow base 5 1 (.slice (some ⟨g, 0, none⟩) n cap) n (bytes (wire doi proto typ s data))) (hn : n = 8 + s.length + data.length) (hb : Below w2.heap.size w2 w3) (x y : Addr)
    (hx : 8 < 8 + s.length → x = ⟨g, 8, none⟩) (hy : 8 + s.length < n → y = ⟨g, 8 + s.length, none⟩) (c1 c2 : Nat) : Src w3 (some x) c1 s ∧ Src w3 (some y) c2 data := by
  have h3 := own_below hown hb (fun k hk => (hown.lt k hk).2)
  exact ⟨part_src h3 x c1 8 s (fun i hi => wire_spi doi proto typ s data i hi) (by omega) (fun h => hx (by omega)),
    part_src h3 y c2 (8 + s.length) data (fun i hi => wire_data doi proto typ s data i hi) (by omega) (fun h => hy (by omega))⟩

theorem parse_wire (base g cap : Nat) (doi proto typ : Int) (s data : List Int) (w2 : World) (hdoi : 0 ≤ doi ∧ doi ≤ 4294967295) (htyp : 0 ≤ typ ∧ typ ≤ 65535) (hs : s.length ≤ 255) (hd : data.length ≤ 1024) (hcap : 8 + s.length + data.length ≤ cap)
    (hown : w2.ownsRow base 5 1 (.slice (some ⟨g, 0, none⟩) (8 + s.length + data.length) cap) (8 + s.length + data.length) (bytes (wire doi proto typ s data))) :
    Calls Ybaf.prog 9 #[.slice (some ⟨g, 0, none⟩) (8 + s.length + data.length) cap] w2 fun e w' => ∃ x y c2, e = .returned (.tuple #[.agg #[.int .u32 doi, .int .u8 proto, .slice (some x) s.length s.length, .int .u16 typ, .slice (some y) data.length c2], .nilIface]) ∧
      Src w' (some x) s.length s ∧ Src w' (some y) c2 data ∧ Below w2.heap.size w2 w' := by
  obtain ⟨q0, q1, q2, q3, q4, q5, q6, q7⟩ := wire_cells doi proto typ s data
  have c0 := own_at hown 0 (by omega)
  have c1 := own_at hown 1 (by omega)
  have c2 := own_at hown 2 (by omega)
  have c3 := own_at hown 3 (by omega)
  have c4 := own_at hown 4 (by omega)
  have c5 := own_at hown 5 (by omega)
  have c6 := own_at hown 6 (by omega)
  have c7 := own_at hown 7 (by omega)
  rw [q0] at c0
  rw [q1] at c1
  rw [q2] at c2
  rw [q3] at c3
  rw [q4] at c4
  rw [q5] at c5
  rw [q6] at c6
  rw [q7] at c7
  refine (parse_ok g (8 + s.length + data.length) cap (8 + s.length) doi proto typ (s.length : Int) w2 hdoi htyp (by omega) (by omega) (by omega) (by omega) hcap c0 c1 c2 c3 c4 c5 c6 c7).mono ?_
  rintro e w' ⟨⟨x, y, he, hx, hy⟩, hb⟩
  have t1 : 8 + s.length - 8 = s.length := by omega
  have t2 : 8 + s.length + data.length - (8 + s.length) = data.length := by omega
  rw [t1, t2] at he
  obtain ⟨z1, z2⟩ := back_src doi proto typ s data hown rfl hb x y hx hy s.length (cap - (8 + s.length))
  exact ⟨x, y, _, he, z1, z2, hb⟩

theorem append_at (base : Nat) (ls : Nat) (doi proto typ : Int) (sa da : Option Addr) (cs cd : Nat) (spi data : List Int) (w : World) (hl : spi.length = ls) (hdoi : 0 ≤ doi ∧ doi ≤ 4294967295) (hproto : 0 ≤ proto ∧ proto ≤ 255) (htyp : 0 ≤ typ ∧ typ ≤ 65535)
    (hspi : ls ≤ 255) (hdata : data.length ≤ 1024) (hbase : base ≤ w.heap.size)
    (hs : Src w sa cs spi) (hd : Src w da cd data) (lw : Low base sa spi) (ld : Low base da data) :
    Calls Ybaf.prog 7 #[.agg #[.int .u32 doi, .int .u8 proto, .slice sa ls cs, .int .u16 typ, .slice da data.length cd], .slice none 0 0] w fun e w' =>
      ∃ g n cap, e = .returned (.tuple #[.slice (some ⟨g, 0, none⟩) n cap, .nilIface]) ∧ n = 8 + ls + data.length ∧ n ≤ cap ∧ w'.ownsRow base 5 1 (.slice (some ⟨g, 0, none⟩) n cap) n (bytes (wire doi proto typ spi data)) ∧ Below base w w' := by
  subst hl
  refine (append_ok base (.slice none 0 0) 0 [] doi proto typ sa da cs cd spi data w hdoi hproto htyp hspi hdata (World.ownsRow_nil _ _ _ _) (by omega) hbase hs hd lw ld).mono ?_
  rintro e w2 ⟨v2, rfl, hown2, hb2⟩
  rw [List.nil_append, Nat.zero_add] at hown2
  obtain ⟨g, cap, rfl, hcap, hgb⟩ := some_shape hown2 (by omega)
  exact ⟨g, _, cap, rfl, rfl, hcap, hown2, hb2⟩

theorem parse_at (base g n ls cap : Nat) (doi proto typ : Int) (s data : List Int) (w2 : World) (hl : s.length = ls) (hn : n = 8 + ls + data.length) (hdoi : 0 ≤ doi ∧ doi ≤ 4294967295) (htyp : 0 ≤ typ ∧ typ ≤ 65535) (hs : ls ≤ 255) (hd : data.length ≤ 1024) (hcap : n ≤ cap)
    (hown : w2.ownsRow base 5 1 (.slice (some ⟨g, 0, none⟩) n cap) n (bytes (wire doi proto typ s data))) :
    Calls Ybaf.prog 9 #[.slice (some ⟨g, 0, none⟩) n cap] w2 fun e w' => ∃ x y c2, e = .returned (.tuple #[.agg #[.int .u32 doi, .int .u8 proto, .slice (some x) ls ls, .int .u16 typ, .slice (some y) data.length c2], .nilIface]) ∧
      Src w' (some x) ls s ∧ Src w' (some y) c2 data ∧ Below w2.heap.size w2 w' := by
  subst hl
  subst hn
  exact parse_wire base g cap doi proto typ s data w2 hdoi htyp hs hd hcap hown

set_option maxHeartbeats 2000000 in
theorem round_short (doi proto typ : Int) (sa da : Option Addr) (ls cs cd : Nat) (s data : List Int) (w : World) (hl : s.length = ls) (hdoi : 0 ≤ doi ∧ doi ≤ 4294967295) (hproto : 0 ≤ proto ∧ proto ≤ 255) (htyp : 0 ≤ typ ∧ typ ≤ 65535)
    (hspi : ls ≤ 255) (hdata : data.length ≤ 1024) (hs : Src w sa cs s) (hd : Src w da cd data) :
    Calls Ybaf.prog 5 #[.int .u32 doi, .int .u8 proto, .int .u16 typ, .slice sa ls cs, .slice da data.length cd] w fun e w' => e = .returned (.bool true) ∧ Below w.heap.size w w' := by
  have HP : Hid (Src w sa cs s ∧ Src w da cd data) := ⟨hs, hd⟩
  have HL : Hid (s.length = ls) := hl
  have e1 : decide ((1024 : Int) < (ls : Int)) = false := decide_eq_false (by omega)
  have e2 : decide ((1024 : Int) < (data.length : Int)) = false := decide_eq_false (by omega)
  clear hs hd hl
  go_enter Ybaf.func5, Ybaf.ntmps5
  go_wp2_with fail
  have hba : ∀ o, Below w.heap.size w (w.alloc o) := fun o => (Below.refl _ w).alloc (Nat.le_refl _) o
  refine (append_at w.heap.size ls doi proto typ sa da cs cd s data _ HL.out hdoi hproto htyp hspi hdata (by simp) (HP.out.1.below (hba _) HP.out.1.low) (HP.out.2.below (hba _) HP.out.2.low) HP.out.1.low HP.out.2.low).mono ?_
  rintro e w2 ⟨g, n, cap, rfl, hn, hcap, hown2, hb2⟩
  have HB2 : Hid (Below w.heap.size w w2) := (hba _).trans hb2
  have HO2 : Hid (n = 8 + ls + data.length ∧ w2.ownsRow w.heap.size 5 1 (.slice (some ⟨g, 0, none⟩) n cap) n (bytes (wire doi proto typ s data))) := ⟨hn, hown2⟩
  have hn1 : n ≤ 5000 := by omega
  clear hown2 hb2 hba hn
  go_wp2_with fail
  refine (parse_at w.heap.size g n ls cap doi proto typ s data w2 HL.out HO2.out.1 hdoi htyp (by omega) hdata hcap HO2.out.2).mono ?_
  rintro e w3 ⟨x, y, c2, rfl, hx, hy, hb3⟩
  have hs2 := HB2.out.size
  have HB3 : Hid (Below w.heap.size w w3) := HB2.out.trans (hb3.mono hs2)
  have hs3 := HB3.out.size
  have HX : Hid (∀ o, Src (w3.alloc o) (some x) ls s ∧ Src (w3.alloc o) (some y) c2 data ∧ Src (w3.alloc o) sa cs s ∧ Src (w3.alloc o) da cd data) := fun o =>
    ⟨hx.below ((Below.refl _ w3).alloc (Nat.le_refl _) o) hx.low, hy.below ((Below.refl _ w3).alloc (Nat.le_refl _) o) hy.low, HP.out.1.below (HB3.out.alloc hs3 o) HP.out.1.low, HP.out.2.below (HB3.out.alloc hs3 o) HP.out.2.low⟩
  clear hx hy hb3 HO2 HB2 HP
  go_wp2_with fail
  refine (eq_at _ _ _ _ _ s _ HL.out (by omega) (HX.out _).1 (HX.out _).2.2.1).mono ?_
  rintro e w4 ⟨rfl, hK4⟩
  have d4 : w4.cell? ⟨w3.heap.size, 4, none⟩ = some (.slice (some y) data.length c2) := by
    rw [hK4.cell (p := ⟨w3.heap.size, 4, none⟩) (by simp) (fun h => h), World.cell?_alloc_at _ _ _ _ rfl]
    rfl
  have HX4 : Hid (Src w4 (some y) c2 data ∧ Src w4 da cd data) := ⟨(HX.out _).2.1.kept hK4, (HX.out _).2.2.2.kept hK4⟩
  have HB4 : Hid (Below w.heap.size w w4) := hK4.below (HB3.out.alloc hs3 _) (by simp; omega) (fun i h => h.elim)
  clear hK4 HX HB3
  go_wp2_with fail
  refine (eq_any _ _ _ _ data _ (by omega) HX4.out.1 HX4.out.2).mono ?_
  rintro e w5 ⟨rfl, hK5⟩
  have HB5 : Hid (Below w.heap.size w w5) := hK5.below HB4.out HB4.out.size (fun i h => h.elim)
  clear hK5 HX4 HB4
  go_wp2
  go_ret
  exact ⟨rfl, HB5.out⟩

set_option maxHeartbeats 2000000 in
theorem round_long (doi proto typ : Int) (b off : Nat) (da : Option Addr) (lspi cs cd : Nat) (s data : List Int) (w : World) (hl : s.length = 255) (hdoi : 0 ≤ doi ∧ doi ≤ 4294967295) (hproto : 0 ≤ proto ∧ proto ≤ 255) (htyp : 0 ≤ typ ∧ typ ≤ 65535)
    (hspi : 255 < lspi) (hspi2 : lspi ≤ 1024) (hcs : lspi ≤ cs) (hdata : data.length ≤ 1024) (hs : Src w (some ⟨b, off, none⟩) cs s) (hd : Src w da cd data) :
    Calls Ybaf.prog 5 #[.int .u32 doi, .int .u8 proto, .int .u16 typ, .slice (some ⟨b, off, none⟩) lspi cs, .slice da data.length cd] w fun e w' => e = .returned (.bool true) ∧ Below w.heap.size w w' := by
  have HP : Hid (Src w (some ⟨b, off, none⟩) cs s ∧ Src w da cd data) := ⟨hs, hd⟩
  have HL : Hid (s.length = 255) := hl
  have e1 : decide ((1024 : Int) < (lspi : Int)) = false := decide_eq_false (by omega)
  have e2 : decide ((1024 : Int) < (data.length : Int)) = false := decide_eq_false (by omega)
  have i0 : (255 : Int) ≤ (cs : Int) := by omega
  have i1 : ¬ cs = 0 := by omega
  clear hs hd hl
  go_enter Ybaf.func5, Ybaf.ntmps5
  go_wp2_with fail
  have hba : ∀ o, Below w.heap.size w (w.alloc o) := fun o => (Below.refl _ w).alloc (Nat.le_refl _) o
  refine (append_at w.heap.size 255 doi proto typ (some ⟨b, off, none⟩) da cs cd s data _ HL.out hdoi hproto htyp (by omega) hdata (by simp) (HP.out.1.below (hba _) HP.out.1.low) (HP.out.2.below (hba _) HP.out.2.low) HP.out.1.low HP.out.2.low).mono ?_
  rintro e w2 ⟨g, n, cap, rfl, hn, hcap, hown2, hb2⟩
  have HB2 : Hid (Below w.heap.size w w2) := (hba _).trans hb2
  have HO2 : Hid (n = 8 + 255 + data.length ∧ w2.ownsRow w.heap.size 5 1 (.slice (some ⟨g, 0, none⟩) n cap) n (bytes (wire doi proto typ s data))) := ⟨hn, hown2⟩
  have hn1 : n ≤ 5000 := by omega
  clear hown2 hb2 hba hn
  go_wp2_with fail
  refine (parse_at w.heap.size g n 255 cap doi proto typ s data w2 HL.out HO2.out.1 hdoi htyp (by omega) hdata hcap HO2.out.2).mono ?_
  rintro e w3 ⟨x, y, c2, rfl, hx, hy, hb3⟩
  have hs2 := HB2.out.size
  have HB3 : Hid (Below w.heap.size w w3) := HB2.out.trans (hb3.mono hs2)
  have hs3 := HB3.out.size
  have HX : Hid (∀ o, Src (w3.alloc o) (some x) 255 s ∧ Src (w3.alloc o) (some y) c2 data ∧ Src (w3.alloc o) (some ⟨b, off, none⟩) cs s ∧ Src (w3.alloc o) da cd data) := fun o =>
    ⟨hx.below ((Below.refl _ w3).alloc (Nat.le_refl _) o) hx.low, hy.below ((Below.refl _ w3).alloc (Nat.le_refl _) o) hy.low, HP.out.1.below (HB3.out.alloc hs3 o) HP.out.1.low, HP.out.2.below (HB3.out.alloc hs3 o) HP.out.2.low⟩
  clear hx hy hb3 HO2 HB2 HP
  go_wp2_with fail
  refine (eq_at _ _ _ _ _ s _ HL.out (by omega) (HX.out _).1 (HX.out _).2.2.1).mono ?_
  rintro e w4 ⟨rfl, hK4⟩
  have d4 : w4.cell? ⟨w3.heap.size, 4, none⟩ = some (.slice (some y) data.length c2) := by
    rw [hK4.cell (p := ⟨w3.heap.size, 4, none⟩) (by simp) (fun h => h), World.cell?_alloc_at _ _ _ _ rfl]
    rfl
  have HX4 : Hid (Src w4 (some y) c2 data ∧ Src w4 da cd data) := ⟨(HX.out _).2.1.kept hK4, (HX.out _).2.2.2.kept hK4⟩
  have HB4 : Hid (Below w.heap.size w w4) := hK4.below (HB3.out.alloc hs3 _) (by simp; omega) (fun i h => h.elim)
  clear hK4 HX HB3
  go_wp2_with fail
  refine (eq_any _ _ _ _ data _ (by omega) HX4.out.1 HX4.out.2).mono ?_
  rintro e w5 ⟨rfl, hK5⟩
  have HB5 : Hid (Below w.heap.size w w5) := hK5.below HB4.out HB4.out.size (fun i h => h.elim)
  clear hK5 HX4 HB4
  go_wp2
  go_ret
  exact ⟨rfl, HB5.out⟩

theorem round_out (doi proto typ : Int) (sa da : Option Addr) (ls cs ld cd : Nat) (w : World) (h0 : ls ≤ 9223372036854775807) (h1 : ld ≤ 9223372036854775807) (h : 1024 < ls ∨ 1024 < ld) :
    Calls Ybaf.prog 5 #[.int .u32 doi, .int .u8 proto, .int .u16 typ, .slice sa ls cs, .slice da ld cd] w fun e w' => e = .returned (.bool true) ∧ Below w.heap.size w w' := by
  by_cases hl : 1024 < ls
  · have e1 : decide ((1024 : Int) < (ls : Int)) = true := decide_eq_true (by omega)
    clear h
    go_enter Ybaf.func5, Ybaf.ntmps5
    go_wp2
    go_ret
    exact ⟨rfl, Below.refl _ _⟩
  · have e1 : decide ((1024 : Int) < (ls : Int)) = false := decide_eq_false (by omega)
    have e2 : decide ((1024 : Int) < (ld : Int)) = true := decide_eq_true (by omega)
    clear h
    go_enter Ybaf.func5, Ybaf.ntmps5
    go_wp2
    go_ret
    exact ⟨rfl, Below.refl _ _⟩
end Go.Proofs.YbulkhmiFmt
