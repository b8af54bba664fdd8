/-
  LawS0411BExact, walked.
-/
import Derived.Test.YbulkhmiFmtLong
namespace Go.Proofs.YbulkhmiFmt
open Go.RowKit Go.Extern.Stop Go.Stop Go.Extern
set_option linter.unusedVariables false

theorem eq_at (a1 a2 : Option Addr) (n cap1 cap2 : Nat) (zs : List Int) (w : World) (hl : zs.length = n) (hlen : n ≤ 5000) (h1 : Src w a1 cap1 zs) (h2 : Src w a2 cap2 zs) :
    Calls Ybaf.prog 8 #[.slice a1 n cap1, .slice a2 n cap2] w fun e w' => e = .returned (.bool true) ∧ Kept (fun _ => False) w w' := by
  subst hl
  exact eq_any a1 a2 cap1 cap2 zs w hlen h1 h2

theorem own_srcn {w : World} {base n : Nat} {ao : Option Addr} {cap : Nat} {xs : List Int} (h : w.ownsRow base 5 1 (.slice ao n cap) n (bytes xs)) : Src w ao cap xs := by
  have hl : xs.length = n := by have := h.1; simpa using this
  subst hl
  exact own_src h rfl

theorem take_one (l : List Int) (k : Nat) (h : k < l.length) : bytes (l.take k) ++ [.int .u8 (l[k]?.getD 0)] = bytes (l.take (k + 1)) := by
  have e : l[k]?.getD 0 = l[k] := by simp [h]
  rw [List.take_succ_eq_append_getElem h, e]
  show _ = List.map _ (_ ++ _)
  rw [List.map_append]
  rfl

theorem take_more (h0 l : List Int) (k : Nat) (h : k < l.length) : bytes (h0 ++ l.take k) ++ [.int .u8 (l[k]?.getD 0)] = bytes (h0 ++ l.take (k + 1)) := by
  show List.map _ (h0 ++ _) ++ _ = List.map _ (h0 ++ _)
  rw [List.map_append, List.map_append, List.append_assoc, take_one l k h]

theorem src_at {w : World} {a : Option Addr} {cap : Nat} {zs : List Int} (h : Src w a cap zs) (k : Nat) (hk : k < zs.length) : ∃ b off, a = some ⟨b, off, none⟩ ∧ b < w.heap.size ∧ w.cell? ⟨b, off + k, none⟩ = some (.int .u8 (zs[k]?.getD 0)) := by
  rcases h with ⟨_, rfl, _⟩ | ⟨x, rfl, hc⟩
  · simp at hk
  · obtain ⟨b, off, rfl, hc'⟩ := ints_at hc (by omega)
    exact ⟨b, off, rfl, World.block_lt_of_cell? w _ (hc' k hk), by simpa [List.getD] using hc' k hk⟩

/-- HOW THE COPY BY HAND STANDS: want owns these bytes, in its one block g; below g all is as it was in w2. -/
structure Want (w2 wr : World) (cap k : Nat) (xs : List Int) : Prop where
  own : wr.ownsRow w2.heap.size 5 1 (.slice (some ⟨w2.heap.size, 0, none⟩) k cap) k (bytes xs)
  bel : Below w2.heap.size w2 wr

theorem Want.lt {w2 wr : World} {cap k : Nat} {xs : List Int} (h : Want w2 wr cap k xs) : w2.heap.size < wr.heap.size := (h.own.lt _ rfl).2

theorem Want.put {w2 wr w' : World} {cap k m : Nat} {xs ys zs : List Int} {o : Obj} (h : Want w2 wr cap k xs) (hown : w'.ownsRow w2.heap.size 5 1 (.slice (some ⟨w2.heap.size, 0, none⟩) m cap) m (bytes zs)) (hG : (wr.alloc o).grownBy w' (some w2.heap.size)) : Want w2 w' cap m zs :=
  ⟨hown, (h.bel.alloc h.bel.size o).grown hG (by have := h.bel.size; simp; omega) (fun k hk => by simp at hk; omega)⟩

set_option maxHeartbeats 1000000 in
theorem exact_long (F : Interp) (doi proto typ : Int) (sa da pa : Option Addr) (cs cd cp : Nat) (spi data pfx : List Int) (w : World) (hF : F.answers w.tape)
    (hspi : spi.length ≤ 1024) (hdata : data.length ≤ 1024) (hpre : pfx.length ≤ 1024) (hbig : 255 < spi.length) (hp : Src w pa cp pfx) :
    Calls Ybaf.prog 3 #[.int .u32 doi, .int .u8 proto, .int .u16 typ, .slice sa spi.length cs, .slice da data.length cd, .slice pa pfx.length cp] w fun e w' => e = .returned (.bool true) ∧ Below w.heap.size w w' := by
  have HP : Hid (Src w pa cp pfx) := hp
  have HF : Hid (F.answers w.tape) := hF
  have e1 : decide ((1024 : Int) < (spi.length : Int)) = false := decide_eq_false (by omega)
  have e2 : decide ((1024 : Int) < (data.length : Int)) = false := decide_eq_false (by omega)
  have e3 : decide ((1024 : Int) < (pfx.length : Int)) = false := decide_eq_false (by omega)
  clear hp hF
  go_enter Ybaf.func3, Ybaf.ntmps3
  go_wp2_with fail
  refine (copy_any _ _ pfx _ (by omega) HP.out).mono ?_
  rintro e w2 ⟨v, rfl, hown, hb2⟩
  obtain ⟨ao, cv, rfl⟩ := slice_shape hown
  have HO : Hid (w2.ownsRow w.heap.size 5 1 (.slice ao pfx.length cv) pfx.length (bytes pfx)) := hown
  have HB : Hid (Below w.heap.size w w2) := hb2
  have hs2 := hb2.size
  clear hown hb2
  go_wp2_with fail
  refine (append_err F _ _ _ _ _ _ _ _ _ _ _ _ _ ?_ hbig (by omega)).mono ?_
  · exact (show F.answers w2.tape by rw [HB.out.tape]; exact HF.out)
  · rintro e w3 ⟨⟨pe, rfl⟩, hb3⟩
    have HB3 : Hid (Below w.heap.size w w3) := (HB.out.alloc (by omega) _).trans (hb3.mono (by simp; omega))
    have HO3 : Hid (Src w3 ao cv pfx) := own_src (own_below (HO.out.alloc _) hb3 (fun g hg => by have := HO.out.lt g hg; simp; omega)) rfl
    have HP3 : Hid (Src w3 pa cp pfx) := HP.out.below HB3.out HP.out.low
    clear hb3
    go_wp2_with (go_at_call 8; refine (eq_any _ _ _ _ pfx _ (by omega) HO3.out HP3.out).mono ?_; rintro e w4 ⟨rfl, hK4⟩)
    go_ret
    exact ⟨rfl, hK4.below HB3.out HB3.out.size (fun i h => h.elim)⟩

set_option maxHeartbeats 2000000 in
theorem exact_short (doi proto typ : Int) (sa da pa : Option Addr) (cs cd cp : Nat) (spi data pfx : List Int) (w : World) (hdoi : 0 ≤ doi ∧ doi ≤ 4294967295) (hproto : 0 ≤ proto ∧ proto ≤ 255) (htyp : 0 ≤ typ ∧ typ ≤ 65535)
    (hspi : spi.length ≤ 255) (hdata : data.length ≤ 1024) (hpre : pfx.length ≤ 1024) (hs : Src w sa cs spi) (hd : Src w da cd data) (hp : Src w pa cp pfx) :
    Calls Ybaf.prog 3 #[.int .u32 doi, .int .u8 proto, .int .u16 typ, .slice sa spi.length cs, .slice da data.length cd, .slice pa pfx.length cp] w fun e w' => e = .returned (.bool true) ∧ Below w.heap.size w w' := by
  obtain ⟨i0, hi, hz0, hz1, hz2⟩ := info_parts Ybaf.info5
  have HP : Hid (Src w pa cp pfx ∧ Src w sa cs spi ∧ Src w da cd data) := ⟨hp, hs, hd⟩
  have e1 : decide ((1024 : Int) < (spi.length : Int)) = false := decide_eq_false (by omega)
  have e2 : decide ((1024 : Int) < (data.length : Int)) = false := decide_eq_false (by omega)
  have e3 : decide ((1024 : Int) < (pfx.length : Int)) = false := decide_eq_false (by omega)
  clear hp hs hd
  go_enter Ybaf.func3, Ybaf.ntmps3
  go_wp2_with fail
  refine (copy_any _ _ pfx _ (by omega) HP.out.1).mono ?_
  rintro e w1 ⟨v, rfl, hown, hb1⟩
  obtain ⟨ao, cv, rfl⟩ := slice_shape hown
  have HO : Hid (w1.ownsRow w.heap.size 5 1 (.slice ao pfx.length cv) pfx.length (bytes pfx)) := hown
  have HB : Hid (Below w.heap.size w w1) := hb1
  have hs1 := hb1.size
  clear hown hb1
  go_wp2_with fail
  have hba : ∀ o, Below w.heap.size w (w1.alloc o) := fun o => HB.out.alloc hs1 o
  refine (append_ok w.heap.size _ _ pfx _ _ _ _ _ _ _ spi data _ hdoi hproto htyp hspi hdata (HO.out.alloc _) hpre (by simp; omega) (HP.out.2.1.below (hba _) HP.out.2.1.low) (HP.out.2.2.below (hba _) HP.out.2.2.low) HP.out.2.1.low HP.out.2.2.low).mono ?_
  rintro e w2 ⟨v2, rfl, hown2, hb2⟩
  obtain ⟨a2, p2, rfl⟩ := slice_shape hown2
  have HB2 : Hid (Below w.heap.size w w2) := (hba _).trans hb2
  have HO2 : Hid (w2.ownsRow w.heap.size 5 1 (.slice a2 (pfx.length + 8 + spi.length + data.length) p2) (pfx.length + 8 + spi.length + data.length) (bytes (pfx ++ wire doi proto typ spi data))) := hown2
  have hs2 := HB2.out.size
  have HP2 : Hid (Src w2 pa cp pfx ∧ Src w2 sa cs spi ∧ Src w2 da cd data) := ⟨HP.out.1.below HB2.out HP.out.1.low, HP.out.2.1.below HB2.out HP.out.2.1.low, HP.out.2.2.below HB2.out HP.out.2.2.low⟩
  clear hown2 hb2 hba HB HO HP
  go_wp2_with (at_make; refine wpList_make_own _ rfl _ _ 24 rfl w2.heap.size 5 i0 (.int .u8 0) 1 Ybaf.underlying24 hi hz0 hz1 .i64 .i64 _ (pfx.length + 8 + spi.length + data.length) rfl rfl (by omega) (by rw [hz2]; omega) (by unfold maxLen; omega) (Nat.le_refl _) ?_)
  intro w3 hown3 hgrow3
  have HW : Hid (Want w2 w3 (pfx.length + 8 + spi.length + data.length) 0 []) := ⟨by simpa using hown3, (Below.refl _ _).grown hgrow3 (Nat.le_refl _) (fun k h => by cases h)⟩
  clear hown3 hgrow3
  go_wp2
  go_loopw [17, 18] (fun v i wr => ∃ k : Nat, k ≤ pfx.length ∧ i = .int .i64 k ∧ v = .slice (some ⟨w2.heap.size, 0, none⟩) k (pfx.length + 8 + spi.length + data.length) ∧ Hid (Want w2 wr (pfx.length + 8 + spi.length + data.length) k (pfx.take k))) (fun _ i _ => pfx.length - (intOf i).toNat)
  case atStart => exact ⟨0, Nat.zero_le _, rfl, rfl, HW⟩
  case round =>
    obtain ⟨k, hk, rfl, rfl, HR⟩ := hrel
    clear HW
    by_cases hlt : k < pfx.length
    · obtain ⟨b, off, rfl, hb, hc⟩ := src_at HP2.out.1 k hlt
      have hcell := (HR.out.bel.cell (p := ⟨b, off + k, none⟩) hb).trans hc
      obtain ⟨c, hcc⟩ : ∃ c, c = pfx[k]?.getD 0 := ⟨_, rfl⟩
      rw [← hcc] at hcell
      have HC : Hid (c = pfx[k]?.getD 0) := hcc
      clear hcc hc
      go_wp2_with (at_builtin; refine wpList_append_fits _ rfl (.tmp 76) (.tmp 81) 24 rfl w2.heap.size 5 i0 1 Ybaf.underlying24 hi hz1 w2.heap.size k (pfx.length + 8 + spi.length + data.length) (bytes (pfx.take k)) rfl (HR.out.own.alloc _) ⟨wr.heap.size, 0, none⟩ 1 1 (bytes [c]) rfl rfl (by exact new_cells _ rfl _) (ints_oneCell _ _) (by omega) ?_)
      intro w4 hown4 hG4
      have HR2 : Hid (Want w2 w4 (pfx.length + 8 + spi.length + data.length) (k + 1) (pfx.take (k + 1))) := HR.out.put (ys := []) (by rw [← take_one pfx k hlt, ← HC.out]; simpa using hown4) hG4
      clear hown4 hG4 HR
      go_wp2
      go_roundw
      case rel => exact ⟨k + 1, by omega, by go_num, rfl, HR2⟩
      case measure => simp [intOf]; omega
    · have hke : k = pfx.length := by omega
      subst hke
      have HR1 : Hid (Want w2 wr (pfx.length + 8 + spi.length + data.length) pfx.length pfx) := by have := HR.out; rw [List.take_length] at this; exact this
      clear HR
      go_wp2_with (at_builtin; refine wpList_append_fits _ rfl (.tmp 83) (.tmp 104) 24 rfl w2.heap.size 5 i0 1 Ybaf.underlying24 hi hz1 w2.heap.size pfx.length (pfx.length + 8 + spi.length + data.length) (bytes pfx) rfl (HR1.out.own.alloc _) ⟨wr.heap.size, 0, none⟩ 8 8 (bytes (be32 doi ++ [proto, (spi.length : Int)] ++ be16 typ)) rfl rfl (by exact new_cells _ rfl _) (ints_oneCell _ _) (by omega) ?_)
      intro w4 hown4 hG4
      obtain ⟨H0, hH0⟩ : ∃ H0, H0 = pfx ++ (be32 doi ++ [proto, (spi.length : Int)] ++ be16 typ) := ⟨_, rfl⟩
      have HH : Hid (H0 = pfx ++ (be32 doi ++ [proto, (spi.length : Int)] ++ be16 typ)) := hH0
      have HR2 : Hid (Want w2 w4 (pfx.length + 8 + spi.length + data.length) (pfx.length + 8) H0) := HR1.out.put (ys := []) (by rw [hH0]; simpa using hown4) hG4
      clear hown4 hG4 HR1 hH0
      go_wp2
      go_loopw [17, 19] (fun v i wr => ∃ k : Nat, k ≤ spi.length ∧ i = .int .i64 k ∧ v = .slice (some ⟨w2.heap.size, 0, none⟩) (pfx.length + 8 + k) (pfx.length + 8 + spi.length + data.length) ∧ Hid (Want w2 wr (pfx.length + 8 + spi.length + data.length) (pfx.length + 8 + k) (H0 ++ spi.take k))) (fun _ i _ => spi.length - (intOf i).toNat)
      case atStart => exact ⟨0, Nat.zero_le _, rfl, rfl, by simpa using HR2⟩
      case round =>
        rename_i wr0 _
        obtain ⟨k, hk, rfl, rfl, HR⟩ := hrel
        clear HR2
        by_cases hlt : k < spi.length
        · obtain ⟨b, off, rfl, hb, hc⟩ := src_at HP2.out.2.1 k hlt
          have hcell := (HR.out.bel.cell (p := ⟨b, off + k, none⟩) hb).trans hc
          obtain ⟨c, hcc⟩ : ∃ c, c = spi[k]?.getD 0 := ⟨_, rfl⟩
          rw [← hcc] at hcell
          have HC : Hid (c = spi[k]?.getD 0) := hcc
          clear hcc hc
          go_wp2_with (at_builtin; refine wpList_append_fits _ rfl (.tmp 112) (.tmp 117) 24 rfl w2.heap.size 5 i0 1 Ybaf.underlying24 hi hz1 w2.heap.size (pfx.length + 8 + k) (pfx.length + 8 + spi.length + data.length) (bytes (H0 ++ spi.take k)) rfl (HR.out.own.alloc _) ⟨wr.heap.size, 0, none⟩ 1 1 (bytes [c]) rfl rfl (by exact new_cells _ rfl _) (ints_oneCell _ _) (by omega) ?_)
          intro w5 hown5 hG5
          have HR3 : Hid (Want w2 w5 (pfx.length + 8 + spi.length + data.length) (pfx.length + 8 + (k + 1)) (H0 ++ spi.take (k + 1))) := HR.out.put (ys := []) (by rw [← take_more H0 spi k hlt, ← HC.out]; simpa [Nat.add_assoc] using hown5) hG5
          clear hown5 hG5 HR
          go_wp2
          go_roundw
          case rel => exact ⟨k + 1, by omega, by go_num, rfl, HR3⟩
          case measure => simp [intOf]; omega
        · have hke : k = spi.length := by omega
          subst hke
          have HR1 : Hid (Want w2 wr (pfx.length + 8 + spi.length + data.length) (pfx.length + 8 + spi.length) (H0 ++ spi)) := by have := HR.out; rw [List.take_length] at this; exact this
          clear HR
          go_wp2
          go_loopw [17, 20] (fun v i wr => ∃ k : Nat, k ≤ data.length ∧ i = .int .i64 k ∧ v = .slice (some ⟨w2.heap.size, 0, none⟩) (pfx.length + 8 + spi.length + k) (pfx.length + 8 + spi.length + data.length) ∧ Hid (Want w2 wr (pfx.length + 8 + spi.length + data.length) (pfx.length + 8 + spi.length + k) (H0 ++ spi ++ data.take k))) (fun _ i _ => data.length - (intOf i).toNat)
          case atStart => exact ⟨0, Nat.zero_le _, rfl, rfl, by simpa using HR1⟩
          case round =>
            obtain ⟨k, hk, rfl, rfl, HR⟩ := hrel
            clear HR1
            by_cases hlt : k < data.length
            · obtain ⟨b, off, rfl, hb, hc⟩ := src_at HP2.out.2.2 k hlt
              have hcell := (HR.out.bel.cell (p := ⟨b, off + k, none⟩) hb).trans hc
              obtain ⟨c, hcc⟩ : ∃ c, c = data[k]?.getD 0 := ⟨_, rfl⟩
              rw [← hcc] at hcell
              have HC : Hid (c = data[k]?.getD 0) := hcc
              clear hcc hc
              go_wp2_with (at_builtin; refine wpList_append_fits _ rfl (.tmp 125) (.tmp 130) 24 rfl w2.heap.size 5 i0 1 Ybaf.underlying24 hi hz1 w2.heap.size (pfx.length + 8 + spi.length + k) (pfx.length + 8 + spi.length + data.length) (bytes (H0 ++ spi ++ data.take k)) rfl (HR.out.own.alloc _) ⟨wr.heap.size, 0, none⟩ 1 1 (bytes [c]) rfl rfl (by exact new_cells _ rfl _) (ints_oneCell _ _) (by omega) ?_)
              intro w5 hown5 hG5
              have HR3 : Hid (Want w2 w5 (pfx.length + 8 + spi.length + data.length) (pfx.length + 8 + spi.length + (k + 1)) (H0 ++ spi ++ data.take (k + 1))) := HR.out.put (ys := []) (by rw [← take_more (H0 ++ spi) data k hlt, ← HC.out]; simpa [Nat.add_assoc] using hown5) hG5
              clear hown5 hG5 HR
              go_wp2
              go_roundw
              case rel => exact ⟨k + 1, by omega, by go_num, rfl, HR3⟩
              case measure => simp [intOf]; omega
            · have hke : k = data.length := by omega
              subst hke
              have HE : Hid (Src wr (some ⟨w2.heap.size, 0, none⟩) (pfx.length + 8 + spi.length + data.length) (pfx ++ wire doi proto typ spi data)) := by
                unfold Hid
                have h1 := HR.out.own
                rw [List.take_length] at h1
                have h2 := own_srcn h1
                rw [HH.out] at h2
                simpa [wire] using h2
              have HG : Hid (Src wr a2 p2 (pfx ++ wire doi proto typ spi data)) := own_srcn (own_below HO2.out HR.out.bel (fun g hg => (HO2.out.lt g hg).2))
              have HBL : Hid (Below w.heap.size w wr) := HB2.out.trans (HR.out.bel.mono hs2)
              clear HR
              go_wp2_with (go_at_call 8; refine (eq_at _ _ _ _ _ (pfx ++ wire doi proto typ spi data) _ (by simp [wire, be32, be16]; omega) (by omega) HG.out HE.out).mono ?_; rintro e w6 ⟨rfl, hK6⟩)
              go_ret
              exact ⟨rfl, hK6.below HBL.out HBL.out.size (fun i h => h.elim)⟩

theorem exact_out (doi proto typ : Int) (sa da pa : Option Addr) (ls cs ld cd lp cp : Nat) (w : World) (h0 : ls ≤ 9223372036854775807) (h1 : ld ≤ 9223372036854775807) (h2 : lp ≤ 9223372036854775807) (h : 1024 < ls ∨ 1024 < ld ∨ 1024 < lp) :
    Calls Ybaf.prog 3 #[.int .u32 doi, .int .u8 proto, .int .u16 typ, .slice sa ls cs, .slice da ld cd, .slice pa lp cp] w fun e w' => e = .returned (.bool true) ∧ Below w.heap.size w w' := by
  by_cases hl : 1024 < ls
  · have e1 : decide ((1024 : Int) < (ls : Int)) = true := decide_eq_true (by omega)
    clear h
    go_enter Ybaf.func3, Ybaf.ntmps3
    go_wp2
    go_ret
    exact ⟨rfl, Below.refl _ _⟩
  · have e1 : decide ((1024 : Int) < (ls : Int)) = false := decide_eq_false (by omega)
    by_cases hl2 : 1024 < ld
    · have e2 : decide ((1024 : Int) < (ld : Int)) = true := decide_eq_true (by omega)
      clear h
      go_enter Ybaf.func3, Ybaf.ntmps3
      go_wp2
      go_ret
      exact ⟨rfl, Below.refl _ _⟩
    · have e2 : decide ((1024 : Int) < (ld : Int)) = false := decide_eq_false (by omega)
      have e3 : decide ((1024 : Int) < (lp : Int)) = true := decide_eq_true (by omega)
      clear h
      go_enter Ybaf.func3, Ybaf.ntmps3
      go_wp2
      go_ret
      exact ⟨rfl, Below.refl _ _⟩
end Go.Proofs.YbulkhmiFmt
