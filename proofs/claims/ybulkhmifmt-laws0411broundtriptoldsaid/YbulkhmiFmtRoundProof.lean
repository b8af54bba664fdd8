/-
  THE TOLD AND TIED CARD OF LawS0411BRoundTrip.
-/
import Derived.Test.YbulkhmiFmtTie
import Derived.Test.YbulkhmiFmtCards
import Derived.Test.YbulkhmiFmtOpen
import Derived.Test.YbulkhmiFmtRound
import Derived.LaidMore
import Derived.WalkSmall
import Derived.Stop.LaidErr
import Derived.Deep.DeepWitnessRef
import Derived.SevenTiedAt
namespace Go.Proofs.YbulkhmiFmt
open Go.ChangeShapes Go.WideShapes Go.ChangeAt Go.RowKit Go.Kit
open Go.Extern.Stop Go.Stop Go.Extern
set_option linter.unusedVariables false

/-- The sentinel's name, out of the given specification. -/
def errName : String := Rows.lawS0411BRoundTripSpec.vars.headD ""
theorem gErr : Ybaf.prog.globalNamed errName = some 1 := by kernel_rfl
theorem tErr : (Ybaf.prog.globals[1]?).map (·.type) = some 32 := by kernel_rfl

theorem open_src2 {H : Type} {enc : TypeId × Value → H} {W : World} {a : Option Addr} {len cap : Nat} {d : DataW H} {p : List MemPlace}
    (h : DataW.Trod enc Ybaf.prog W 0 (fun _ => true) true 24 (.slice a len cap) d p) : len ≤ cap := by
  obtain ⟨fuel, hf⟩ := h
  rcases open_ints Ybaf.underlying24 Ybaf.underlying5 (by kernel_rfl) hf with ⟨hcs, _⟩ | ⟨x, l, c, zs, hcs, _, hl, hm, hz, _, hcell, hwz⟩
  · simp [Value.cells] at hcs
    omega
  · simp [Value.cells] at hcs
    omega

theorem round_all (doi proto typ : Int) (sa da : Option Addr) (ls cs ld cd : Nat) (spi data : List Int) (w : World) (hdoi : 0 ≤ doi ∧ doi ≤ 4294967295) (hproto : 0 ≤ proto ∧ proto ≤ 255) (htyp : 0 ≤ typ ∧ typ ≤ 65535)
    (h0 : spi.length = ls) (h1 : data.length = ld) (m0 : ls ≤ 9223372036854775807) (m1 : ld ≤ 9223372036854775807) (hcs : ls ≤ cs) (hs : Src w sa cs spi) (hd : Src w da cd data) :
    Calls Ybaf.prog 5 #[.int .u32 doi, .int .u8 proto, .int .u16 typ, .slice sa ls cs, .slice da ld cd] w fun e w' => e = .returned (.bool true) ∧ Below w.heap.size w w' := by
  by_cases h : 1024 < ls ∨ 1024 < ld
  · exact round_out doi proto typ sa da ls cs ld cd w m0 m1 h
  · subst h1
    by_cases hb : 255 < ls
    · rcases hs with ⟨_, rfl, _⟩ | ⟨x, rfl, hc⟩
      · simp at h0; omega
      · obtain ⟨b, off, rfl, hc'⟩ := ints_at hc (by omega)
        refine round_long doi proto typ b off da ls cs cd (spi.take 255) data w (by simp; omega) hdoi hproto htyp hb (by omega) hcs (by omega) (.inr ⟨_, rfl, fun i hi => ?_⟩) hd
        have hi' : i < 255 := by simp at hi; omega
        rw [hc i (by omega)]
        simp [List.getD, hi']
    · exact round_short doi proto typ sa da ls cs cd spi data w h0 hdoi hproto htyp (by omega) (by omega) hs hd

abbrev laid1 : List (String × DataW Unit) := Rows.lawS0411BRoundTripRow.laid

/-- The door's own heap meets the condition: closed facts. -/
theorem door_met (os : Os) (args : Array Value) : laidMetH Ybaf.prog laid1 ((World.doorLaid Ybaf.prog 400 os).forCall (fun _ _ => 0) ⟨#[], args, []⟩).memory :=
  laidMetH_of_parts3 (fuel := 8) (laidMet_of_run' 8 (by kernel_rfl) (by kernel_rfl)) (by kernel_rfl) (by kernel_rfl)

set_option maxHeartbeats 1000000 in
set_option maxRecDepth 100000 in
theorem round_lifted (os : Os) (started : os.Started) (H : Type) (enc : TypeId × Value → H) :
    ReturnsInTold none {} Ybaf.checked os 5 .any Input.okWide ((OpenSpec.ofChange Rows.lawS0411BRoundTripSpec).preRow enc Ybaf.prog Ybaf.f5 [] false laid1) (fun F => ((OpenSpec.ofChange Rows.lawS0411BRoundTripSpec).at F).post enc Ybaf.prog Ybaf.f5 false true false false) (aloneAtReturn Ybaf.prog) nothingAlways := by
  refine returnsInTold_of_row (C := Ybaf.checked) (s := OpenSpec.ofChange Rows.lawS0411BRoundTripSpec) (by kernel_rfl) own started (by kernel_rfl) Ybaf.func5
    (OpenSpec.witness_stopped_atRef (enc := enc) (C := Ybaf.checked) false (World.doorLaid Ybaf.prog 400 os) #[.int .u32 0, .int .u8 0, .int .u16 0, .slice none 0 0, .slice none 0 0] rfl (by kernel_rfl) (by kernel_rfl) (by kernel_rfl) (OpenSpec.preRow_of_B rfl 8 (by kernel_rfl) (by kernel_rfl) (door_met os _))) ?_
  intro F W base args ds gs before _ hF hval0 hW _ _ hsz _ _
  have hval : ∀ (j : Nat) t v, Ybaf.f5.params[j]? = some t → args[j]? = some v → Value.okWide Ybaf.prog W .any base t v := hval0
  have hW' := hW
  obtain ⟨p, q, hA0, hV0, rfl, _, _⟩ := hW
  have hA : DataW.TrodAll enc Ybaf.prog W 0 (fun _ => true) true Ybaf.f5.params.toList args.toList ds p := hA0
  have hV : DataW.TrodVars enc Ybaf.prog W (fun _ => true) [errName] gs q := hV0
  rw [Ybaf.params5] at hA hval
  obtain ⟨v0, vs0, d0, ds0, p0, q0, hargs, rfl, rfl, h0, r0⟩ := trodAll_cons hA
  obtain ⟨v1, vs1, d1, ds1, p1, q1, rfl, rfl, rfl, h1, r1⟩ := trodAll_cons r0
  obtain ⟨v2, vs2, d2, ds2, p2, q2, rfl, rfl, rfl, h2, r2⟩ := trodAll_cons r1
  obtain ⟨v3, vs3, d3, ds3, p3, q3, rfl, rfl, rfl, h3, r3⟩ := trodAll_cons r2
  obtain ⟨v4, vs4, d4, ds4, p4, q4, rfl, rfl, rfl, h4, r4⟩ := trodAll_cons r3
  obtain ⟨rfl, rfl, rfl⟩ := trodAll_nil r4
  obtain rfl : args = #[v0, v1, v2, v3, v4] := by cases args; simp_all
  obtain ⟨g, t, cs, fuel, d, p', rfl, hg, ht, hvar, hd, rfl⟩ := trodVars_one hV
  obtain rfl := Option.some.inj (gErr.symm.trans hg)
  obtain rfl := Option.some.inj (tErr.symm.trans ht)
  obtain ⟨x, rfl, hx, rfl, rfl, hxc⟩ := token_of hg Ybaf.underlying32 hvar hd
  obtain ⟨x0, rfl, rfl, rfl, w0⟩ := open_int Ybaf.underlying22 (hval 0 22 v0 rfl rfl) h0
  obtain ⟨x1, rfl, rfl, rfl, w1⟩ := open_int Ybaf.underlying5 (hval 1 5 v1 rfl rfl) h1
  obtain ⟨x2, rfl, rfl, rfl, w2⟩ := open_int Ybaf.underlying23 (hval 2 23 v2 rfl rfl) h2
  obtain ⟨a3, len3, cap3, rfl⟩ := okWide_slice Ybaf.underlying24 (hval 3 24 v3 rfl rfl)
  obtain ⟨a4, len4, cap4, rfl⟩ := okWide_slice Ybaf.underlying24 (hval 4 24 v4 rfl rfl)
  have lt3 : ∀ x ∈ p3, x.block < W.heap.size := by obtain ⟨m, hm⟩ := h3; exact DataW.trod_lt m _ _ _ hm
  have lt4 : ∀ x ∈ p4, x.block < W.heap.size := by obtain ⟨m, hm⟩ := h4; exact DataW.trod_lt m _ _ _ hm
  obtain ⟨z3, l3, s3, m3, _⟩ := open_src h3
  obtain ⟨z4, l4, s4, m4, _⟩ := open_src h4
  have k3 := open_src2 h3
  have g1lt : 1 < W.heap.size := World.block_lt_of_cell? W _ hxc
  clear hA0 hval0 hV0
  refine (round_all x0 x1 x2 a3 a4 len3 cap3 len4 cap4 z3 z4 W (bounds_u32 w0) (bounds_u8 w1) (bounds_u16 w2) l3 l4 m3 m4 k3 s3 s4).mono fun e W' ⟨he, bel⟩ => ?_
  subst he
  have hv' := vars_read1 enc gErr tErr Ybaf.underlying32 (var?_below bel gErr g1lt hvar) hx (fun b => decide (b < W.heap.size))
  exact ⟨_, rfl, _, _, _, [], _, [.cell 1 0], hW', trodAll_mk1 (shut_bool Ybaf.underlying4 _), (trodAll_cons_mk (shut_int Ybaf.underlying22 w0) (trodAll_cons_mk (shut_int Ybaf.underlying5 w1) (trodAll_cons_mk (shut_int Ybaf.underlying23 w2)
    (trodAll_cons_mk (Below.trod laidOut (by kernel_rfl) (of_decide_eq_true (by kernel_rfl)) h3 bel lt3) (trodAll_cons_mk (Below.trod laidOut (by kernel_rfl) (of_decide_eq_true (by kernel_rfl)) h4 bel lt4) trodAll_mk0))))), hv', bel.frame _, fun h => by cases h⟩

/-- THE STATEMENT: the told and tied card. -/
theorem lawS0411BRoundTrip_proved : Rows.LawS0411BRoundTripToldSaid :=
  Claim7.holds_of_told_tied_any_at .later 5 Ybaf.f5 "fmt.errorf" [] [] _ _ _ _ _ (by kernel_rfl) rfl rfl rfl laidOut (by kernel_rfl) rfl ⟨rfl, rfl, rfl, rfl, rfl, rfl, rfl⟩ rfl rfl (by kernel_rfl) (by kernel_rfl) Ybaf.func5 (by kernel_rfl)
    (of_decide_eq_true (by kernel_rfl)) (of_decide_eq_true (by kernel_rfl)) stops.symm rfl stopKnobs.symm (by kernel_rfl)
    (by kernel_rfl) (by kernel_rfl) (by kernel_rfl) (by kernel_rfl) (by kernel_rfl) (by kernel_rfl) (by kernel_rfl) (by kernel_rfl) (by kernel_rfl) rfl (by kernel_rfl) rfl rfl
    rfl rfl
    rfl (by kernel_rfl) (by kernel_rfl) (by kernel_rfl) (by decide) (by kernel_rfl) lawS0411BRoundTrip_row_tie
    (OpenClaim.moreEntering_of (by kernel_rfl) (by kernel_rfl) (by kernel_rfl) (by kernel_rfl) (by kernel_rfl) (by kernel_rfl) (by kernel_rfl) (by kernel_rfl) (by kernel_rfl) (by kernel_rfl))
    ⟨_, WideRow.started_initial, quiet _⟩
    (fun os started _ H enc _ => round_lifted os started H enc)
end Go.Proofs.YbulkhmiFmt
