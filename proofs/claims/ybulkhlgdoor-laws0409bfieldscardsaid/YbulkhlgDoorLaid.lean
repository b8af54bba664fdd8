/-
  FROM THE ROW's CONDITION (the listed table reads as listed) TO THE CELLS THAT THE WALK ASKS.
-/
import Derived.Test.YbulkhlgDoorWalk
import Derived.ProofKit
import Derived.LaidMore
import Derived.OpenShut
import Derived.Stop.Joined
import Derived.Deep.Strs
namespace Go.Proofs.YbulkhlgDoor
open Go.ChangeShapes Go.WideShapes Go.ChangeAt Go.RowKit Go.Deep
set_option linter.unusedVariables false

/-- The table's name, out of the given specification. -/
def tabName : String := Rows.lawS0409BFieldsSpec.vars.headD ""
theorem gTab : Ybad.prog.globalNamed tabName = some 0 := by kernel_rfl
theorem tTab : (Ybad.prog.globals[0]?).map (·.type) = some 31 := by kernel_rfl
theorem cells32 : Ybad.prog.cellsOf 32 = 3 := by kernel_rfl
theorem cells22 : Ybad.prog.cellsOf 22 = 1 := by kernel_rfl
theorem cells24 : Ybad.prog.cellsOf 24 = 1 := by kernel_rfl
theorem cells4 : Ybad.prog.cellsOf 4 = 1 := by kernel_rfl

def rowD {H : Type} (r : Bs × Bs × Bool) : DataW H := .agg [.lit (.string r.1), .lit (.string r.2.1), .lit (.bool r.2.2)]
theorem laid_rows {H : Type} : (Rows.laid_example_com_coalesce_coalesce_auditCodes : DataW H) = .slice (rows.map rowD) [] := rfl

theorem str_of {s : ByteArray} {l : Bs} (h : s.data.toList = l) : Value.string s = str l := by
  subst h
  cases s
  simp

/-- One row of the table: three cells. -/
theorem row_of {H : Type} {enc : TypeId × Value → H} {w : World} {base : Nat} {sp : Nat → Bool} {held : Bool} {n : Nat} {cs : List Value} {r : Bs × Bs × Bool} {p : List MemPlace}
    (h : DataW.trod enc Ybad.prog w base sp held n 32 cs = some (rowD r, p)) : cs = [str r.1, str r.2.1, .bool r.2.2] := by
  obtain ⟨y0, y1, y2, m, hx, hl, h0, h1, h2⟩ := trod_struct3 Ybad.underlying32 h
  rw [cells32] at hl
  match cs, hl with
  | [c0, c1, c2], _ =>
    simp [cells22, cells24, cells4] at h0 h1 h2
    obtain ⟨s0, e0, rfl, _⟩ := DataW.trod_string Ybad.underlying22 h0
    obtain ⟨s1, e1, rfl, _⟩ := DataW.trod_string Ybad.underlying24 h1
    obtain ⟨b2, e2, rfl⟩ := DataW.trod_bool Ybad.underlying4 h2
    simp only [rowD, Prod.mk.injEq, DataW.agg.injEq, List.cons.injEq, DataW.lit.injEq, Lit.string.injEq, Lit.bool.injEq, and_true] at hx
    simp only [List.cons.injEq, and_true] at e0 e1 e2
    rw [e0, e1, e2, str_of hx.1.1.symm, str_of hx.1.2.1.symm, hx.1.2.2]

/-- WHAT THE CONDITION GIVES THE WALK. -/
theorem of_laid {W : World} (h : laidMetH Ybad.prog [(tabName, Rows.laid_example_com_coalesce_coalesce_auditCodes)] W) :
    ∃ tb to cap, W.cell? ⟨0, 0, none⟩ = some (.slice (some ⟨tb, to, none⟩) 8 cap) ∧ TabIs W tb to := by
  rw [MakeChecks.laidMetH_plain _ _ _ (by kernel_rfl)] at h
  obtain ⟨ps, ⟨g0, t0, cs0, f0, p0, q0, hg0, ht0, hv0, hd0, _⟩, _, _⟩ := h
  obtain rfl := Option.some.inj (gTab.symm.trans hg0)
  obtain rfl := Option.some.inj (tTab.symm.trans ht0)
  rw [laid_rows] at hd0
  rcases DataW.trod_slice Ybad.underlying31 hd0 with ⟨_, hx⟩ | ⟨a, len, cap, elems, rest, n, _, hcs, hx, _, hl, _, hlen, hel, _⟩
  · simp at hx
  simp only [Prod.mk.injEq, DataW.slice.injEq] at hx
  obtain ⟨⟨he, _⟩, _⟩ := hx
  have h8 : len = 8 := by
    have := congrArg List.length he
    simp [rows_len] at this
    omega
  subst h8
  have hrow : ∀ k (hk : k < rows.length), ∃ cs', W.cells? 0 (a.add (k * 3)) 3 = some cs' ∧ cs' = [str rows[k].1, str rows[k].2.1, .bool rows[k].2.2] := by
    intro k hk
    have h1 := hel k (by rw [rows_len] at hk; exact hk)
    rw [cells32] at h1
    have h2 : (elems.map (·.1))[k]? = some (rowD rows[k]) := by rw [← he]; simp [hk]
    rw [List.getElem?_map] at h2
    obtain ⟨y, hy, hy1⟩ := Option.map_eq_some_iff.1 h2
    rw [hy] at h1
    obtain ⟨cs', hc', ht'⟩ := Option.bind_eq_some_iff.1 h1
    obtain ⟨d, p⟩ := y
    dsimp only at hy1
    subst hy1
    exact ⟨cs', hc', row_of ht'⟩
  have hspot : ∃ tb to, a = ⟨tb, to, none⟩ := by
    obtain ⟨cs', hc', rfl⟩ := hrow 0 (by decide)
    have := (World.cells?_some hc').2.2 0 (by decide)
    obtain ⟨tb, to, spot⟩ := a
    have hs : spot = none := by simpa [Addr.add] using World.cell?_spot (this.trans rfl)
    subst hs
    exact ⟨tb, to, rfl⟩
  obtain ⟨tb, to, rfl⟩ := hspot
  have hcell : W.cell? ⟨0, 0, none⟩ = some (.slice (some ⟨tb, to, none⟩) 8 cap) := by
    have := World.var?_cell hg0 hv0 0
    rw [Array.eq_one_of_toList hcs] at this
    simpa using this
  have hadd : ∀ i j : Nat, ((⟨tb, to, none⟩ : Addr).add i).add j = ⟨tb, to + i + j, none⟩ := by
    intro i j
    unfold Addr.add
    split <;> split <;> simp_all
  refine ⟨tb, to, cap, hcell, fun k hk => ?_⟩
  obtain ⟨cs', hc', rfl⟩ := hrow k hk
  have hh := (World.cells?_some hc').2.2
  have e0 := hh 0 (by decide)
  have e1 := hh 1 (by decide)
  have e2 := hh 2 (by decide)
  rw [hadd] at e0 e1 e2
  exact ⟨by simpa using e0, by simpa using e1, by simpa using e2⟩
end Go.Proofs.YbulkhlgDoor
