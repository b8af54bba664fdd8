/-
  (*parser).startSequence, keep, size: walked.
-/
import Derived.Test.YbulkhkeOwnLaw
namespace Go.Proofs.Ybulkhke
open Go.RowKit

theorem Yba.info3 : (Yba.prog.info? 3).map (fun i => (i.zero, i.size, i.bytes)) = some (some (.int .i64 0), 1, 8) := by kernel_rfl

/-- The three fields that the law looks at, and that the struct's block may be written. -/
structure Par (w : World) (pb : Nat) (cnt : Bool) (v : Value) (n : Int) : Prop where
  c4 : w.cell? ⟨pb, 4, none⟩ = some (.bool cnt)
  c5 : w.cell? ⟨pb, 5, none⟩ = some v
  c6 : w.cell? ⟨pb, 6, none⟩ = some (.int .i64 n)
  fr : ∀ o, w.frozen? ⟨pb, o, none⟩ = false

theorem Par.kept {S : Nat → Prop} {w w' : World} {pb : Nat} {cnt : Bool} {v : Value} {n : Int} (h : Par w pb cnt v n) (k : Kept S w w') (hb : pb < w.heap.size) (hn : ¬ S pb) : Par w' pb cnt v n :=
  ⟨(k.cell (p := ⟨pb, 4, none⟩) hb hn).trans h.c4, (k.cell (p := ⟨pb, 5, none⟩) hb hn).trans h.c5, (k.cell (p := ⟨pb, 6, none⟩) hb hn).trans h.c6, fun o => (k.frozen (p := ⟨pb, o, none⟩) hb hn).trans (h.fr o)⟩

abbrev ints (xs : List Int) : List Value := xs.map (Value.int .i64)

theorem slice_shape {w : World} {base : Nat} {v : Value} {n : Nat} {xs : List Value} (h : w.ownsRow base 3 1 v n xs) : ∃ ao cap, v = .slice ao n cap := by
  rcases h.2 with ⟨rfl, rfl⟩ | ⟨g, cap, _, rfl, _⟩
  · exact ⟨none, 0, rfl⟩
  · exact ⟨_, cap, rfl⟩

theorem own_past {w : World} {base : Nat} {v : Value} {n : Nat} {xs : List Value} (h : w.ownsRow base 3 1 v n xs) (p : Addr) (hne : v.ownBlock ≠ some p.block) (u : Value) : (w.setCell p u).ownsRow base 3 1 v n xs :=
  Kept.owns (S := fun k => p.block = k) ((Kept.refl (fun k => p.block = k) w).setCell rfl u) h (fun k hk hkp => hne (by rw [hkp]; exact hk))

/-- One new cell, behind a store. -/
theorem one_new {w : World} (p : Addr) (x u : Value) : ∀ j z, [u][j]? = some z → ((w.setCell p x).alloc (.cells #[u] 3)).cell? ((⟨w.heap.size, 0, none⟩ : Addr).add j) = some z := by
  intro j z hj
  match j, hj with
  | 0, hj => simp at hj; subst hj; rw [show (⟨w.heap.size, 0, none⟩ : Addr).add 0 = ⟨w.heap.size, 0, none⟩ from by simp [Addr.add], World.cell?_alloc_at _ _ _ _ (by simp)]; rfl

set_option maxHeartbeats 800000 in
theorem seq_on (pb base : Nat) (v : Value) (n : Int) (xs : List Int) (w : World) (hP : Par w pb true v n) (hown : w.ownsRow base 3 1 v xs.length (ints xs)) (hne : v.ownBlock ≠ some pb)
    (hpb : pb < w.heap.size) (hlen : xs.length ≤ 5000) (hbase : base ≤ w.heap.size) :
    Calls Yba.prog 8 #[.pointer (some ⟨pb, 0, none⟩)] w fun e w' => e = .returned (.int .i64 n) ∧ ∃ v', Par w' pb true v' (wrap64 (n + 1)) ∧ w'.ownsRow base 3 1 v' (xs.length + 1) (ints (xs ++ [0])) ∧
      Kept (fun k => k = pb ∨ v.ownBlock = some k) w w' ∧ Fresh w v v' := by
  obtain ⟨i0, hi, hz0, hz1, hz2⟩ := info_parts Yba.info3
  obtain ⟨ao, cap, rfl⟩ := slice_shape hown
  obtain ⟨c4, c5, c6, fr⟩ := hP
  have f5 := fr 5
  have f6 := fr 6
  have FR : Hid (∀ o, w.frozen? ⟨pb, o, none⟩ = false) := fr
  clear fr
  -- what the append stands upon: the world behind the counter's store and behind the one-element slice
  have hownS : ∀ o, ((w.setCell ⟨pb, 6, none⟩ (.int .i64 (wrap64 (n + 1)))).alloc o).ownsRow base 3 1 (.slice ao xs.length cap) xs.length (ints xs) := by
    intro o
    exact World.ownsRow.alloc (own_past hown _ hne _) o
  have HO : Hid (∀ o, ((w.setCell ⟨pb, 6, none⟩ (.int .i64 (wrap64 (n + 1)))).alloc o).ownsRow base 3 1 (.slice ao xs.length cap) xs.length (ints xs)) := hownS
  clear hownS hown
  go_enter Yba.func8, Yba.ntmps8
  go_wp2_with (at_builtin; refine wpList_append_apart _ rfl (.tmp 23) (.tmp 24) 22 rfl base 3 i0 (.int .i64 0) 1 8 Yba.underlying22 hi hz0 hz1 hz2 rfl (by decide) (.slice ao xs.length cap) xs.length (ints xs) rfl (HO.out _) ⟨w.heap.size, 0, none⟩ 1 1 [.int .i64 0] rfl rfl (one_new _ _ _) (by intro u hu; simp at hu; subst hu; rfl) (by unfold maxLen; omega) (by omega) (by simp; omega) ?_)
  intro v' w1 hown' hgrow hfresh
  have hK1 : Kept (fun k => k = pb ∨ (Value.slice ao xs.length cap).ownBlock = some k) w w1 :=
    (((Kept.refl _ w).setCell (Or.inl rfl) _).alloc _).grown hgrow (fun k hk => Or.inr hk)
  obtain ⟨g, cap', rfl⟩ : ∃ g cap', v' = .slice (some ⟨g, 0, none⟩) (xs.length + 1) cap' := by
    rcases hown'.2 with ⟨_, h⟩ | ⟨g, cap', _, h, _⟩
    · omega
    · exact ⟨g, cap', h⟩
  have hgp : g ≠ pb := by
    intro e
    rcases hfresh with h | ⟨g', h, hg'⟩
    · rw [← h] at hne; exact hne (by simp [Value.ownBlock, e])
    · simp [Value.ownBlock] at h; simp at hg'; omega
  have bl : w1.heap[pb]? = (w.setCell ⟨pb, 6, none⟩ (.int .i64 (wrap64 (n + 1)))).heap[pb]? := by
    rw [hgrow.block pb (by simp; omega) (fun e => hne e.symm), Below.heap_alloc _ _ _ (by simp; omega)]
  have k4 : w1.cell? ⟨pb, 4, none⟩ = some (.bool true) := by
    rw [World.cell?_of_block (w := w.setCell ⟨pb, 6, none⟩ (.int .i64 (wrap64 (n + 1)))) bl, World.cell?_setCell_other _ _ _ _ (by simp), c4]
  have k5 : w1.cell? ⟨pb, 5, none⟩ = some (.slice ao xs.length cap) := by
    rw [World.cell?_of_block (w := w.setCell ⟨pb, 6, none⟩ (.int .i64 (wrap64 (n + 1)))) bl, World.cell?_setCell_other _ _ _ _ (by simp), c5]
  have k6 : w1.cell? ⟨pb, 6, none⟩ = some (.int .i64 (wrap64 (n + 1))) := by
    rw [World.cell?_of_block (w := w.setCell ⟨pb, 6, none⟩ (.int .i64 (wrap64 (n + 1)))) bl, World.cell?_setCell_same _ _ _ c6]
  have e5 : ∀ o, w1.frozen? ⟨pb, o, none⟩ = false := by
    intro o
    rw [World.frozen?_of_block (w := w.setCell ⟨pb, 6, none⟩ (.int .i64 (wrap64 (n + 1)))) bl, World.frozen?_setCell, FR.out o]
  have e55 := e5 5
  have E5 : Hid (∀ o, w1.frozen? ⟨pb, o, none⟩ = false) := e5
  clear e5 bl
  have HK : Hid (∃ v', Par (w1.setCell ⟨pb, 5, none⟩ (.slice (some ⟨g, 0, none⟩) (xs.length + 1) cap')) pb true v' (wrap64 (n + 1)) ∧ (w1.setCell ⟨pb, 5, none⟩ (.slice (some ⟨g, 0, none⟩) (xs.length + 1) cap')).ownsRow base 3 1 v' (xs.length + 1) (ints (xs ++ [0])) ∧
      Kept (fun k => k = pb ∨ (Value.slice ao xs.length cap).ownBlock = some k) w (w1.setCell ⟨pb, 5, none⟩ (.slice (some ⟨g, 0, none⟩) (xs.length + 1) cap')) ∧ Fresh w (.slice ao xs.length cap) v') := by
    refine ⟨.slice (some ⟨g, 0, none⟩) (xs.length + 1) cap', ⟨?_, ?_, ?_, ?_⟩, ?_, hK1.setCell (Or.inl rfl) _, ?_⟩
    · rw [World.cell?_setCell_other _ _ _ _ (by simp), k4]
    · rw [World.cell?_setCell_same _ _ _ k5]
    · rw [World.cell?_setCell_other _ _ _ _ (by simp), k6]
    · intro o; rw [World.frozen?_setCell]; exact E5.out o
    · have := own_past hown' ⟨pb, 5, none⟩ (by simpa [Value.ownBlock] using hgp) (.slice (some ⟨g, 0, none⟩) (xs.length + 1) cap')
      simpa using this
    · rcases hfresh with h | ⟨g', h, hg'⟩
      · exact .inl h
      · exact .inr ⟨g', h, by simp at hg'; omega⟩
  clear hown' hgrow hfresh hK1 HO hi hz0 hz1 hz2
  go_wp2
  go_ret
  exact ⟨rfl, HK.out⟩

theorem seq_off (pb : Nat) (v : Value) (n : Int) (w : World) (hP : Par w pb false v n) :
    Calls Yba.prog 8 #[.pointer (some ⟨pb, 0, none⟩)] w fun e w' => e = .returned (.int .i64 n) ∧ w' = w.setCell ⟨pb, 6, none⟩ (.int .i64 (wrap64 (n + 1))) := by
  obtain ⟨c4, c5, c6, fr⟩ := hP
  have f6 := fr 6
  clear fr
  go_enter Yba.func8, Yba.ntmps8
  go_wp2
  go_ret
  exact ⟨rfl, rfl⟩
end Go.Proofs.Ybulkhke
