/-
  keep and size, walked; what a round of LawS0407BCount does to the two rows.
-/
import Derived.Test.YbulkhkeParser
namespace Go.Proofs.Ybulkhke
open Go.RowKit
set_option linter.unusedVariables false

theorem keep_on (pb g len cap : Nat) (j n x : Int) (w : World) (hP : Par w pb true (.slice (some ⟨g, 0, none⟩) len cap) n) (hj0 : 0 ≤ j) (hj : j < (len : Int)) (hl : len ≤ 5000) (hx : 0 ≤ x ∧ x ≤ 5000) (hg : g ≠ pb)
    (hc : w.cell? ⟨g, j.toNat, none⟩ = some (.int .i64 x)) (hf : w.frozen? ⟨g, j.toNat, none⟩ = false) :
    Calls Yba.prog 10 #[.pointer (some ⟨pb, 0, none⟩), .int .i64 j] w fun e w' => e = .returned (.bool false) ∧ w' = w.setCell ⟨g, j.toNat, none⟩ (.int .i64 (x + 1)) := by
  obtain ⟨c4, c5, c6, fr⟩ := hP
  clear fr
  have hne : (⟨g, j.toNat, none⟩ : Addr) ≠ ⟨pb, 4, none⟩ := fun h => hg (congrArg Addr.block h)
  go_enter Yba.func10, Yba.ntmps10
  go_wp2
  go_ret
  exact ⟨rfl, rfl⟩

theorem size_in (pb g len cap j : Nat) (n x : Int) (w : World) (hP : Par w pb false (.slice (some ⟨g, 0, none⟩) len cap) n) (hj : j < len) (_hl : len ≤ 5000)
    (hc : w.cell? ⟨g, j, none⟩ = some (.int .i64 x)) :
    Calls Yba.prog 11 #[.pointer (some ⟨pb, 0, none⟩), .int .i64 j] w fun e w' => e = .returned (.int .i64 x) ∧ w' = w := by
  obtain ⟨c4, c5, c6, fr⟩ := hP
  clear fr
  go_enter Yba.func11, Yba.ntmps11
  go_wp2
  go_ret
  exact ⟨rfl, rfl⟩

theorem size_out (pb len cap j : Nat) (ao : Option Addr) (n : Int) (w : World) (hP : Par w pb false (.slice ao len cap) n) (hj : len ≤ j) (_hj2 : j ≤ 10000) :
    Calls Yba.prog 11 #[.pointer (some ⟨pb, 0, none⟩), .int .i64 j] w fun e w' => e = .returned (.int .i64 0) ∧ w' = w := by
  obtain ⟨c4, c5, c6, fr⟩ := hP
  clear fr
  have hd : decide ((j : Int) < (len : Int)) = false := decide_eq_false (by omega)
  go_enter Yba.func11, Yba.ntmps11
  go_wp2
  go_ret
  exact ⟨rfl, rfl⟩

/-- One new cell. -/
theorem one_new0 {w : World} (u : Value) : ∀ j z, [u][j]? = some z → (w.alloc (.cells #[u] 3)).cell? ((⟨w.heap.size, 0, none⟩ : Addr).add j) = some z := by
  intro j z hj
  match j, hj with
  | 0, hj => simp at hj; subst hj; rw [show (⟨w.heap.size, 0, none⟩ : Addr).add 0 = ⟨w.heap.size, 0, none⟩ from by simp [Addr.add], World.cell?_alloc_at _ _ _ _ rfl]; rfl

theorem some_shape {w : World} {base : Nat} {v : Value} {n : Nat} {xs : List Value} (h : w.ownsRow base 3 1 v n xs) (hn : 0 < n) : ∃ g cap, v = .slice (some ⟨g, 0, none⟩) n cap := by
  rcases h.2 with ⟨_, rfl⟩ | ⟨g, cap, _, rfl, _⟩
  · omega
  · exact ⟨g, cap, rfl⟩
theorem own_at {w : World} {base g n cap : Nat} {xs : List Int} (h : w.ownsRow base 3 1 (.slice (some ⟨g, 0, none⟩) n cap) n (ints xs)) (i : Nat) (hi : i < n) : w.cell? ⟨g, i, none⟩ = some (.int .i64 (xs[i]?.getD 0)) := by
  have hx : i < xs.length := by have := h.1; simp at this; omega
  rw [h.cellAt i (by omega)]
  simp [hx]

/-- Two slices that share no block. -/
def Apart (v v' : Value) : Prop := ∀ k, v.ownBlock = some k → v'.ownBlock ≠ some k

/-- AT THE HEAD OF EVERY ROUND: the parser's struct in block B, its sizes and the model in rows of the call's own, apart, with the same numbers. -/
structure Inv (w wr : World) (v v' : Value) (xs : List Int) : Prop where
  par : Par wr w.heap.size true v' (xs.length : Int)
  own : wr.ownsRow (w.heap.size + 1) 3 1 v xs.length (ints xs)
  own' : wr.ownsRow (w.heap.size + 1) 3 1 v' xs.length (ints xs)
  apart : Apart v v'
  bel : Below w.heap.size w wr
  lt : w.heap.size < wr.heap.size

theorem Inv.start (w : World) : Inv w (w.alloc (.cells #[.slice none 0 0, .int .i64 0, .int .i64 0, .int .i64 0, .bool true, .slice none 0 0, .int .i64 0] 27)) (.slice none 0 0) (.slice none 0 0) [] :=
  ⟨⟨by rw [World.cell?_alloc_at _ _ _ _ rfl]; rfl, by rw [World.cell?_alloc_at _ _ _ _ rfl]; rfl, by rw [World.cell?_alloc_at _ _ _ _ rfl]; rfl, fun o => World.frozen?_alloc_at _ _ _ _ rfl⟩,
    World.ownsRow_nil _ _ _ _, World.ownsRow_nil _ _ _ _, fun k h => by simp [Value.ownBlock] at h, (Below.refl _ _).alloc (Nat.le_refl _) _, by simp⟩

/-- A round that starts a sequence: the method has run (w1), then the model is appended to (w2). -/
theorem inv_push {w wr w1 w2 : World} {v v' u u' : Value} {xs : List Int} {o : Obj} (h : Inv w wr v v' xs)
    (hP : Par w1 w.heap.size true u' ((xs.length : Int) + 1)) (hown1 : w1.ownsRow (w.heap.size + 1) 3 1 u' (xs.length + 1) (ints (xs ++ [0]))) (hK : Kept (fun k => k = w.heap.size ∨ v'.ownBlock = some k) wr w1) (hF : Fresh wr v' u')
    (hown2 : w2.ownsRow (w.heap.size + 1) 3 1 u (xs.length + 1) (ints xs ++ [.int .i64 0])) (hG : (w1.alloc o).grownBy w2 v.ownBlock) (hF2 : Fresh (w1.alloc o) v u) :
    Inv w w2 u u' (xs ++ [0]) := by
  have hv := h.own.lt
  have hv' := h.own'.lt
  have hu' := hown1.lt
  have hs := hK.size
  have hlt := h.lt
  have hap : Apart v u' := by
    intro k hk he
    rcases hF with hF | ⟨g, hF, hg⟩
    · exact h.apart k hk (by rw [← hF]; exact he)
    · rw [he] at hF; simp at hF; have := hv k hk; omega
  have hK2 : Kept (fun k => v.ownBlock = some k) w1 w2 := ((Kept.refl _ _).alloc o).grown hG (fun k hk => hk)
  refine ⟨?_, by simpa using hown2, ?_, ?_, ?_, ?_⟩
  · have := hP.kept hK2 (by omega) (fun hk => by have := hv _ hk; omega)
    simpa using this
  · have := hK2.owns hown1 (fun k hk hk' => hap k hk' hk)
    simpa using this
  · intro k hk he
    rcases hF2 with hF2 | ⟨g, hF2, hg⟩
    · exact hap k (by rw [← hF2]; exact hk) he
    · rw [hk] at hF2; simp at hF2; have := hu' k he; simp at hg; omega
  · refine hK2.below (hK.below h.bel (by omega) ?_) (by omega) (fun i hi => by have := hv i hi; omega)
    rintro i (rfl | hi)
    · omega
    · have := hv' i hi; omega
  · have := hK2.size; omega

/-- A round that counts one item of sequence j, in both rows. -/
theorem inv_bump {w wr : World} {g n cap g' cap' j : Nat} {xs : List Int} (y : Int) (h : Inv w wr (.slice (some ⟨g, 0, none⟩) n cap) (.slice (some ⟨g', 0, none⟩) n cap') xs) (hn : n = xs.length) :
    Inv w ((wr.setCell ⟨g', j, none⟩ (.int .i64 y)).setCell ⟨g, j, none⟩ (.int .i64 y)) (.slice (some ⟨g, 0, none⟩) n cap) (.slice (some ⟨g', 0, none⟩) n cap') (xs.set j y) := by
  subst hn
  have hv := h.own.lt g rfl
  have hv' := h.own'.lt g' rfl
  have hgg : g ≠ g' := fun e => h.apart g rfl (by simp [Value.ownBlock, e])
  have e : ints (xs.set j y) = (ints xs).set j (.int .i64 y) := by simp [List.map_set]
  have K : Kept (fun k => k = g ∨ k = g') wr ((wr.setCell ⟨g', j, none⟩ (.int .i64 y)).setCell ⟨g, j, none⟩ (.int .i64 y)) := ((Kept.refl _ wr).setCell (Or.inr rfl) _).setCell (Or.inl rfl) _
  refine ⟨?_, ?_, ?_, h.apart, K.below h.bel (by have := h.lt; omega) (by rintro i (rfl | rfl) <;> omega), by have := h.lt; have := K.size; omega⟩
  · have := h.par.kept K (by have := h.lt; omega) (by rintro (h | h) <;> omega)
    simpa using this
  · have h1 := own_past h.own ⟨g', j, none⟩ (by simpa [Value.ownBlock] using hgg) (.int .i64 y)
    have h2 := (h1.stored j (.int .i64 y)).1
    rw [← e] at h2
    simpa using h2
  · have h1 := (h.own'.stored j (.int .i64 y)).1
    rw [← e] at h1
    have h2 := own_past h1 ⟨g, j, none⟩ (by simpa [Value.ownBlock] using fun e => hgg e.symm) (.int .i64 y)
    simpa using h2
end Go.Proofs.Ybulkhke
