/-
  binary.BigEndian's AppendUint32, AppendUint16; Notify.Append: walked.
-/
import Derived.Test.YbulkhmiFmtBytes
import Derived.Laws.AppendOwnNone
namespace Go.Proofs.YbulkhmiFmt
open Go.RowKit
set_option linter.unusedVariables false

theorem hide {p : Prop} (h : p) : Hid p := h
theorem unhide {p : Prop} (h : Hid p) : p := h

/-- The cells of a block that has just been laid. -/
theorem new_cells {w : World} (g : Nat) (hg : g = w.heap.size) (cs : List Value) : ∀ j u, cs[j]? = some u → (w.alloc (.cells cs.toArray 5)).cell? ((⟨g, 0, none⟩ : Addr).add j) = some u := by
  intro j u hj
  rw [add0 g j, World.cell?_alloc_at _ _ _ _ hg]
  simpa using hj

/-- 'append(b, zs...)', b the call's own, zs nil or whatever bytes. -/
theorem wpList_append_src (w : World) {ops : Array Oper} {rest : List Oper} {o : Oper} {a : Act} {Q : Exit → Act → World → Prop} (hgd : o.guard = none) (s x : Operand)
    (ho : o.op = .call { callee := .builtin .append, args := #[s, x], argTypes := #[24, 24] }) (base : Nat)
    (v : Value) (n : Nat) (xs : List Value) (hs : a.eval s = v) (hown : w.ownsRow base 5 1 v n xs)
    (sa : Option Addr) (cap : Nat) (zs : List Int) (hx : a.eval x = .slice sa zs.length cap) (hsrc : Src w sa cap zs)
    (hn : n + zs.length ≤ 100000) (hbase : base ≤ w.heap.size)
    (hK : ∀ v' w', w'.ownsRow base 5 1 v' (n + zs.length) (xs ++ bytes zs) → w.grownBy w' v.ownBlock → Fresh w v v' → wpList Ybaf.prog ops Q rest (a.put o.dst v') w') : wpList Ybaf.prog ops Q (o :: rest) a w := by
  obtain ⟨i0, hi, hz0, hz1, hz2⟩ := info_parts Ybaf.info5
  rcases hsrc with ⟨rfl, rfl, rfl⟩ | ⟨y, rfl, hc⟩
  · exact wpList_append_own_none hgd s x 24 ho base 5 i0 1 Ybaf.underlying24 hi v n xs hs hown hx (hK v w (by simpa using hown) ⟨rfl, rfl, rfl, Nat.le_refl _, fun _ _ _ => rfl⟩ (.inl rfl))
  · exact wpList_append_apart w hgd s x 24 ho base 5 i0 (.int .u8 0) 1 1 Ybaf.underlying24 hi hz0 hz1 hz2 rfl (by decide) v n xs hs hown y zs.length cap (bytes zs) hx (by simp) (Src.cells (cap := cap) hc) (ints_oneCell _ _) (by unfold maxLen; omega) (by omega) hbase hK

def be32 (x : Int) : List Int := [x / 16777216, x / 65536 % 256, x / 256 % 256, x % 256]
def be16 (x : Int) : List Int := [x / 256, x % 256]

theorem own_base {w : World} {base n : Nat} {v : Value} {xs : List Value} (h : w.ownsRow base 5 1 v n xs) : ∀ k, v.ownBlock = some k → base ≤ k := fun k hk => (h.lt k hk).1

set_option maxHeartbeats 400000 in
theorem put32 (base : Nat) (v : Value) (n : Nat) (xs : List Int) (x : Int) (w : World) (hx : 0 ≤ x ∧ x ≤ 4294967295) (hown : w.ownsRow base 5 1 v n (bytes xs)) (hn : n ≤ 5000) (hbase : base ≤ w.heap.size) :
    Calls Ybaf.prog 11 #[.agg #[], v, .int .u32 x] w fun e w' => ∃ v', e = .returned v' ∧ w'.ownsRow base 5 1 v' (n + 4) (bytes (xs ++ be32 x)) ∧ Kept (fun k => v.ownBlock = some k) w w' ∧ Fresh w v v' := by
  obtain ⟨i0, hi, hz0, hz1, hz2⟩ := info_parts Ybaf.info5
  obtain ⟨ao, cap, rfl⟩ := slice_shape hown
  have HO : Hid (w.ownsRow base 5 1 (.slice ao n cap) n (bytes xs)) := hown
  clear hown
  go_enter Ybaf.func11, Ybaf.ntmps11
  go_wp2_with (at_builtin; refine wpList_append_apart _ rfl (.tmp 7) (.tmp 19) 24 rfl base 5 i0 (.int .u8 0) 1 1 Ybaf.underlying24 hi hz0 hz1 hz2 rfl (by decide) (.slice ao n cap) n (bytes xs) rfl ((HO.out.alloc _).alloc _) ⟨w.heap.size + 1, 0, none⟩ 4 4 (bytes (be32 x)) rfl rfl (by exact new_cells _ (by simp) _) (ints_oneCell _ _) (by unfold maxLen; omega) (by omega) (by simp; omega) ?_)
  intro v' w1 hown' hgrow hfr
  have HR : Hid (w1.ownsRow base 5 1 v' (n + 4) (bytes (xs ++ be32 x)) ∧ Kept (fun k => (Value.slice ao n cap).ownBlock = some k) w w1 ∧ Fresh w (.slice ao n cap) v') := by
    refine ⟨by simpa using hown', (((Kept.refl _ w).alloc _).alloc _).grown hgrow (fun k hk => hk), ?_⟩
    rcases hfr with h | ⟨g, h, hg⟩
    · exact .inl h
    · exact .inr ⟨g, h, by simp at hg; omega⟩
  clear hown' hgrow hfr HO hi hz0 hz1 hz2
  go_wp2
  go_ret
  exact ⟨_, rfl, HR.out⟩

set_option maxHeartbeats 400000 in
theorem put16 (base : Nat) (v : Value) (n : Nat) (xs : List Int) (x : Int) (w : World) (hx : 0 ≤ x ∧ x ≤ 65535) (hown : w.ownsRow base 5 1 v n (bytes xs)) (hn : n ≤ 5000) (hbase : base ≤ w.heap.size) :
    Calls Ybaf.prog 12 #[.agg #[], v, .int .u16 x] w fun e w' => ∃ v', e = .returned v' ∧ w'.ownsRow base 5 1 v' (n + 2) (bytes (xs ++ be16 x)) ∧ Kept (fun k => v.ownBlock = some k) w w' ∧ Fresh w v v' := by
  obtain ⟨i0, hi, hz0, hz1, hz2⟩ := info_parts Ybaf.info5
  obtain ⟨ao, cap, rfl⟩ := slice_shape hown
  have HO : Hid (w.ownsRow base 5 1 (.slice ao n cap) n (bytes xs)) := hown
  clear hown
  go_enter Ybaf.func12, Ybaf.ntmps12
  go_wp2_with (at_builtin; refine wpList_append_apart _ rfl (.tmp 7) (.tmp 13) 24 rfl base 5 i0 (.int .u8 0) 1 1 Ybaf.underlying24 hi hz0 hz1 hz2 rfl (by decide) (.slice ao n cap) n (bytes xs) rfl ((HO.out.alloc _).alloc _) ⟨w.heap.size + 1, 0, none⟩ 2 2 (bytes (be16 x)) rfl rfl (by exact new_cells _ (by simp) _) (ints_oneCell _ _) (by unfold maxLen; omega) (by omega) (by simp; omega) ?_)
  intro v' w1 hown' hgrow hfr
  have HR : Hid (w1.ownsRow base 5 1 v' (n + 2) (bytes (xs ++ be16 x)) ∧ Kept (fun k => (Value.slice ao n cap).ownBlock = some k) w w1 ∧ Fresh w (.slice ao n cap) v') := by
    refine ⟨by simpa using hown', (((Kept.refl _ w).alloc _).alloc _).grown hgrow (fun k hk => hk), ?_⟩
    rcases hfr with h | ⟨g, h, hg⟩
    · exact .inl h
    · exact .inr ⟨g, h, by simp at hg; omega⟩
  clear hown' hgrow hfr HO hi hz0 hz1 hz2
  go_wp2
  go_ret
  exact ⟨_, rfl, HR.out⟩

/-- What Append writes behind b. -/
def wire (doi proto typ : Int) (spi data : List Int) : List Int := be32 doi ++ [proto, (spi.length : Int)] ++ be16 typ ++ spi ++ data

/-- HOW APPEND STANDS between two of its steps: what b owns; the block in which n lies. -/
structure St (w : World) (base nb : Nat) (blk : Obj) (wi : World) (v : Value) (n : Nat) (xs : List Int) : Prop where
  own : wi.ownsRow base 5 1 v n (bytes xs)
  nbk : wi.heap[nb]? = some blk
  ne : v.ownBlock ≠ some nb
  bel : Below base w wi
  low : base ≤ wi.heap.size

theorem St.lt {w : World} {base nb : Nat} {blk : Obj} {wi : World} {v : Value} {n : Nat} {xs : List Int} (h : St w base nb blk wi v n xs) : nb < wi.heap.size := (Array.getElem?_eq_some_iff.1 h.nbk).1

theorem St.alloc {w : World} {base nb : Nat} {blk : Obj} {wi : World} {v : Value} {n : Nat} {xs : List Int} (h : St w base nb blk wi v n xs) (o : Obj) : St w base nb blk (wi.alloc o) v n xs :=
  ⟨h.own.alloc o, (Below.heap_alloc wi o nb h.lt).trans h.nbk, h.ne, h.bel.alloc h.low o, by have := h.low; simp; omega⟩

theorem St.step {w : World} {base nb : Nat} {blk : Obj} {wi wj : World} {v v' : Value} {n m : Nat} {xs ys : List Int} (h : St w base nb blk wi v n xs) (hown : wj.ownsRow base 5 1 v' m (bytes ys))
    (hK : Kept (fun k => v.ownBlock = some k) wi wj) (hF : Fresh wi v v') : St w base nb blk wj v' m ys := by
  refine ⟨hown, (hK.block nb h.lt h.ne).trans h.nbk, ?_, hK.below h.bel h.low (own_base h.own), by have := h.low; have := hK.size; omega⟩
  rcases hF with hF | ⟨g, hF, hg⟩
  · rw [hF]; exact h.ne
  · rw [hF]; intro e; have := h.lt; simp at e; omega

theorem St.cells {w : World} {base nb : Nat} {c0 c1 c2 c3 c4 : Value} {wi : World} {v : Value} {n : Nat} {xs : List Int} (h : St w base nb (.cells #[c0, c1, c2, c3, c4] 30 (0, 0)) wi v n xs) :
    wi.cell? ⟨nb, 0, none⟩ = some c0 ∧ wi.cell? ⟨nb, 1, none⟩ = some c1 ∧ wi.cell? ⟨nb, 2, none⟩ = some c2 ∧ wi.cell? ⟨nb, 3, none⟩ = some c3 ∧ wi.cell? ⟨nb, 4, none⟩ = some c4 :=
  ⟨cell_of_row wi nb 0 _ _ _ h.nbk, cell_of_row wi nb 1 _ _ _ h.nbk, cell_of_row wi nb 2 _ _ _ h.nbk, cell_of_row wi nb 3 _ _ _ h.nbk, cell_of_row wi nb 4 _ _ _ h.nbk⟩

/-- .. behind an append of the function's own. -/
theorem St.put {w : World} {base nb : Nat} {blk : Obj} {wi wj : World} {v v' : Value} {n m : Nat} {xs ys : List Int} (h : St w base nb blk wi v n xs) (hown : wj.ownsRow base 5 1 v' m (bytes ys)) (hG : wi.grownBy wj v.ownBlock) (hF : Fresh wi v v') : St w base nb blk wj v' m ys :=
  h.step hown ((Kept.refl _ wi).grown hG (fun k hk => hk)) hF

set_option maxHeartbeats 1000000 in
theorem append_ok (base : Nat) (v : Value) (n : Nat) (xs : List Int) (doi proto typ : Int) (sa da : Option Addr) (cs cd : Nat) (spi data : List Int) (w : World) (hdoi : 0 ≤ doi ∧ doi ≤ 4294967295) (hproto : 0 ≤ proto ∧ proto ≤ 255) (htyp : 0 ≤ typ ∧ typ ≤ 65535)
    (hspi : spi.length ≤ 255) (hdata : data.length ≤ 1024) (hown : w.ownsRow base 5 1 v n (bytes xs)) (hn : n ≤ 1024) (hbase : base ≤ w.heap.size)
    (hs : Src w sa cs spi) (hd : Src w da cd data) (ls : Low base sa spi) (ld : Low base da data) :
    Calls Ybaf.prog 7 #[.agg #[.int .u32 doi, .int .u8 proto, .slice sa spi.length cs, .int .u16 typ, .slice da data.length cd], v] w fun e w' =>
      ∃ v', e = .returned (.tuple #[v', .nilIface]) ∧ w'.ownsRow base 5 1 v' (n + 8 + spi.length + data.length) (bytes (xs ++ wire doi proto typ spi data)) ∧ Below base w w' := by
  obtain ⟨i0, hi, hz0, hz1, hz2⟩ := info_parts Ybaf.info5
  obtain ⟨ao, cap, rfl⟩ := slice_shape hown
  have H0 : Hid (∀ o, St w base w.heap.size o (w.alloc o) (.slice ao n cap) n xs) := fun o =>
    ⟨hown.alloc o, by show (w.heap.push o)[w.heap.size]? = some o; simp, fun e => by have := hown.lt _ e; omega, (Below.refl _ w).alloc hbase o, by simp; omega⟩
  have HS : Hid (Src w sa cs spi ∧ Src w da cd data) := ⟨hs, hd⟩
  clear hown hs hd
  go_enter Ybaf.func7, Ybaf.ntmps7
  go_wp2_with fail
  have h0 := H0.out (.cells #[.int .u32 doi, .int .u8 proto, .slice sa spi.length cs, .int .u16 typ, .slice da data.length cd] 30)
  refine (put32 base (.slice ao n cap) n xs doi _ hdoi h0.own (by omega) h0.low).mono ?_
  rintro e w1 ⟨v1, rfl, hown1, hK1, hF1⟩
  have h1 := h0.step hown1 hK1 hF1
  obtain ⟨c0, c1, c2, c3, c4⟩ := h1.cells
  have H1 : Hid (St w base w.heap.size (.cells #[.int .u32 doi, .int .u8 proto, .slice sa spi.length cs, .int .u16 typ, .slice da data.length cd] 30 (0, 0)) w1 v1 (n + 4) (xs ++ be32 doi)) := h1
  obtain ⟨a1, p1, rfl⟩ := slice_shape hown1
  have low1 := h1.low
  have lt1 := h1.lt
  clear h0 h1 hown1 hK1 hF1 H0
  go_wp2_with (at_builtin; refine wpList_append_apart _ rfl (.tmp 23) (.tmp 30) 24 rfl base 5 i0 (.int .u8 0) 1 1 Ybaf.underlying24 hi hz0 hz1 hz2 rfl (by decide) (.slice a1 (n + 4) p1) (n + 4) (bytes (xs ++ be32 doi)) rfl (H1.out.alloc _).own ⟨w1.heap.size, 0, none⟩ 2 2 (bytes [proto, (spi.length : Int)]) rfl rfl (by exact new_cells _ rfl _) (ints_oneCell _ _) (by unfold maxLen; omega) (by omega) (by simp; omega) ?_)
  intro v2 w2 hown2 hG2 hF2
  have h2 : St w base w.heap.size _ w2 v2 (n + 6) (xs ++ be32 doi ++ [proto, (spi.length : Int)]) := (H1.out.alloc _).put (by simpa using hown2) hG2 hF2
  obtain ⟨a2, p2, rfl⟩ := slice_shape h2.own
  have low2 := h2.low
  have lt2 := h2.lt
  have H2 := hide h2
  obtain ⟨c0, c1, c2, c3, c4⟩ := h2.cells
  clear h2 hown2 hG2 hF2 H1 lt1 low1
  go_wp2_with fail
  have h2 := unhide H2
  refine (put16 base (.slice a2 (n + 6) p2) (n + 6) (xs ++ be32 doi ++ [proto, (spi.length : Int)]) typ _ htyp h2.own (by omega) h2.low).mono ?_
  rintro e w3 ⟨v3, rfl, hown3, hK3, hF3⟩
  have h3 := h2.step hown3 hK3 hF3
  obtain ⟨a3, p3, rfl⟩ := slice_shape h3.own
  have low3 := h3.low
  have lt3 := h3.lt
  have HS3 := hide (HS.out.1.below h3.bel ls)
  have H3 := hide h3
  obtain ⟨d0, d1, d2, d3, d4⟩ := h3.cells
  clear h2 h3 hown3 hK3 hF3 H2 c0 c1 c2 c3 c4 low2 lt2
  go_wp2_with (at_builtin; refine wpList_append_src _ rfl (.tmp 37) (.tmp 39) rfl base (.slice a3 (n + 6 + 2) p3) (n + 6 + 2) (bytes (xs ++ be32 doi ++ [proto, (spi.length : Int)] ++ be16 typ)) rfl (unhide H3).own sa cs spi rfl (unhide HS3) (by omega) low3 ?_)
  intro v4 w4 hown4 hG4 hF4
  have h4 : St w base w.heap.size _ w4 v4 (n + 8 + spi.length) (xs ++ be32 doi ++ [proto, (spi.length : Int)] ++ be16 typ ++ spi) := (unhide H3).put (by simpa using hown4) hG4 hF4
  obtain ⟨a4, p4, rfl⟩ := slice_shape h4.own
  have low4 := h4.low
  have lt4 := h4.lt
  have HS4 := hide (HS.out.2.below h4.bel ld)
  have H4 := hide h4
  obtain ⟨c0, c1, c2, c3, c4⟩ := h4.cells
  clear h4 hown4 hG4 hF4 H3 d0 d1 d2 d3 d4 low3 lt3 HS3
  go_wp2_with (at_builtin; refine wpList_append_src _ rfl (.tmp 41) (.tmp 43) rfl base (.slice a4 (n + 8 + spi.length) p4) (n + 8 + spi.length) (bytes (xs ++ be32 doi ++ [proto, (spi.length : Int)] ++ be16 typ ++ spi)) rfl (unhide H4).own da cd data rfl (unhide HS4) (by omega) low4 ?_)
  intro v5 w5 hown5 hG5 hF5
  have h5 : St w base w.heap.size _ w5 v5 (n + 8 + spi.length + data.length) (xs ++ wire doi proto typ spi data) := (unhide H4).put (by simpa [wire] using hown5) hG5 hF5
  have H5 := hide h5
  clear h5 hown5 hG5 hF5 H4 c0 c1 c2 c3 c4 low4 lt4 HS4 HS
  go_wp2
  go_ret2
  exact ⟨v5, rfl, (unhide H5).own, (unhide H5).bel⟩
end Go.Proofs.YbulkhmiFmt
