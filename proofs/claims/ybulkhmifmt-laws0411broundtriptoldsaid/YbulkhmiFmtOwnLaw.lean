/-
  LAWS ON ROWS OF THE CALL's OWN, over any program: an append that tells WHERE its row lies (the old block, or a new one); a frame that names the blocks that may turn.
-/
import Derived.Test.YbulkhmiFmtRows
import Derived.WalkKit
namespace Go.Proofs.YbulkhmiFmt
open Go.RowKit
set_option linter.unusedVariables false

theorem ownsRow_lower {w : World} {base base' : Nat} {e : TypeId} {size : Nat} {v : Value} {n : Nat} {xs : List Value} (h : w.ownsRow base e size v n xs) (hb : base' ≤ base) : w.ownsRow base' e size v n xs := by
  obtain ⟨h1, h2⟩ := h
  refine ⟨h1, ?_⟩
  rcases h2 with h2 | ⟨g, cap, cur, hv, hg, r⟩
  · exact .inl h2
  · exact .inr ⟨g, cap, cur, hv, Nat.le_trans hb hg, r⟩

/-- A row that may lie anywhere is either the old one or new. -/
def Fresh (w : World) (v v' : Value) : Prop := v'.ownBlock = v.ownBlock ∨ ∃ g, v'.ownBlock = some g ∧ w.heap.size ≤ g

theorem run_append_apart {P : Program} (w : World) (base : Nat) (t ty e : TypeId) (i : TypeInfo) (z : Value) (size bytes : Nat) (ht : P.underlying t = some (.slice e)) (hi : P.info? e = some i) (hz : i.zero = some z)
    (hsize : i.size = size) (hby : i.bytes = bytes) (hzs : z.cells.size = size) (hsz : 0 < size)
    (v : Value) (n : Nat) (xs : List Value) (hown : w.ownsRow base e size v n xs)
    (a : Addr) (m c : Nat) (news : List Value) (hl : news.length = m * size) (hnews : ∀ j u, news[j]? = some u → w.cell? (a.add j) = some u) (h1 : ∀ u ∈ news, u.oneCell' = true)
    (h63 : n + m ≤ maxLen) (hbytes : (n + m) * bytes ≤ 140737488355328) (hbase : base ≤ w.heap.size) :
    ∃ v' w', (Builtin.append_ #[t, t] ty #[v, .slice (some a) m c]).run P w = .ok v' w' ∧ w'.ownsRow base e size v' (n + m) (xs ++ news) ∧ w.grownBy w' v.ownBlock ∧ Fresh w v v' := by
  have hcs := fun g hg => hown.cells (g := g) hg
  rcases hown.2 with ⟨rfl, rfl⟩ | ⟨g, cap, cur, rfl, hbg, _⟩
  · have hx : xs = [] := by have := hown.1; simpa using this
    subst hx
    obtain ⟨v', w', hrun, r1, r2, _⟩ := run_append_own (P := P) w w.heap.size t ty e i z size bytes ht hi hz hsize hby hzs hsz (.slice none 0 0) 0 [] (World.ownsRow_nil _ _ _ _) a m c news hl hnews h1 h63 hbytes (Nat.le_refl _)
    refine ⟨v', w', hrun, ownsRow_lower r1 hbase, r2, ?_⟩
    rcases r1.2 with ⟨rfl, _⟩ | ⟨g, _, _, rfl, hg, _⟩
    · exact .inl rfl
    · exact .inr ⟨g, rfl, hg⟩
  · by_cases hr : n + m ≤ cap
    · obtain ⟨w', hrun, r1, r2⟩ := run_append_fits (P := P) w base t ty e i size ht hi hsize g n cap xs hown a m c news hl hnews h1 hr
      exact ⟨_, w', hrun, r1, r2, .inl rfl⟩
    · obtain ⟨v', w', hrun, r1, r2⟩ := run_append_arg_grows (P := P) w t ty e i z size bytes ht hi hz hsize hby hzs hsz ⟨g, 0, none⟩ n cap xs hown.1 (hcs g rfl) a m c news hl hnews (by omega) h63 hbytes
      refine ⟨v', w', hrun, ownsRow_lower r1 hbase, ⟨r2.os, r2.tape, r2.output, r2.size, fun k hk _ => r2.block k hk (by simp)⟩, ?_⟩
      rcases r1.2 with ⟨_, h0⟩ | ⟨g', _, _, rfl, hg, _⟩
      · omega
      · exact .inr ⟨g', rfl, hg⟩

theorem wpList_append_apart {P : Program} (w : World) {ops : Array Oper} {rest : List Oper} {o : Oper} {a : Act} {Q : Exit → Act → World → Prop} (hgd : o.guard = none) (s x : Operand) (t : TypeId)
    (ho : o.op = .call { callee := .builtin .append, args := #[s, x], argTypes := #[t, t] })
    (base : Nat) (e : TypeId) (i : TypeInfo) (z : Value) (size bytes : Nat) (ht : P.underlying t = some (.slice e)) (hi : P.info? e = some i) (hz : i.zero = some z)
    (hsize : i.size = size) (hby : i.bytes = bytes) (hzs : z.cells.size = size) (hsz : 0 < size)
    (v : Value) (n : Nat) (xs : List Value) (hs : a.eval s = v) (hown : w.ownsRow base e size v n xs)
    (ad : Addr) (m c : Nat) (news : List Value) (hx : a.eval x = .slice (some ad) m c) (hl : news.length = m * size) (hnews : ∀ j u, news[j]? = some u → w.cell? (ad.add j) = some u) (h1 : ∀ u ∈ news, u.oneCell' = true)
    (h63 : n + m ≤ maxLen) (hbytes : (n + m) * bytes ≤ 140737488355328) (hbase : base ≤ w.heap.size)
    (hK : ∀ v' w', w'.ownsRow base e size v' (n + m) (xs ++ news) → w.grownBy w' v.ownBlock → Fresh w v v' → wpList P ops Q rest (a.put o.dst v') w') : wpList P ops Q (o :: rest) a w := by
  refine wpList_plain hgd fun K hK' => ?_
  obtain ⟨v', w', hrun, r1, r2, r3⟩ := run_append_apart (P := P) w base t o.type e i z size bytes ht hi hz hsize hby hzs hsz v n xs hown ad m c news hl hnews h1 h63 hbytes hbase
  unfold Oper.wp
  simp [execOp, ho, resolve, invoke, builtin, hs, hx, hrun, Result.andThen]
  exact hK' _ _ (hK v' w' r1 r2 r3)

/-- All blocks but those of S are as they were; none has gone. -/
structure Kept (S : Nat → Prop) (w w' : World) : Prop where
  os : w'.os = w.os
  tape : w'.tape = w.tape
  output : w'.output = w.output
  size : w.heap.size ≤ w'.heap.size
  block : ∀ k, k < w.heap.size → ¬ S k → w'.heap[k]? = w.heap[k]?

theorem Kept.refl (S : Nat → Prop) (w : World) : Kept S w w := ⟨rfl, rfl, rfl, Nat.le_refl _, fun _ _ _ => rfl⟩
theorem Kept.trans {S : Nat → Prop} {a b c : World} (h : Kept S a b) (k : Kept S b c) : Kept S a c :=
  ⟨k.os.trans h.os, k.tape.trans h.tape, k.output.trans h.output, Nat.le_trans h.size k.size, fun i hi hn => (k.block i (Nat.lt_of_lt_of_le hi h.size) hn).trans (h.block i hi hn)⟩
theorem Kept.alloc {S : Nat → Prop} {a w : World} (h : Kept S a w) (o : Obj) : Kept S a (w.alloc o) :=
  h.trans ⟨rfl, rfl, rfl, by simp, fun k hk _ => Below.heap_alloc _ _ _ hk⟩
theorem Kept.drew {S : Nat → Prop} {a w : World} (h : Kept S a w) : Kept S a w.drew := ⟨h.os, h.tape, h.output, h.size, h.block⟩
theorem Kept.setCell {S : Nat → Prop} {a w : World} (h : Kept S a w) {p : Addr} (hp : S p.block) (u : Value) : Kept S a (w.setCell p u) :=
  h.trans ⟨rfl, rfl, rfl, by simp [World.setCell], fun k _ hn => Below.heap_setCell _ _ _ _ (fun e => hn (e ▸ hp))⟩
theorem Kept.grown {S : Nat → Prop} {a w w' : World} {row : Option Nat} (h : Kept S a w) (hg : w.grownBy w' row) (hr : ∀ k, row = some k → S k) : Kept S a w' :=
  h.trans ⟨hg.os, hg.tape, hg.output, hg.size, fun k hk hn => hg.block k hk (fun e => hn (hr k e.symm))⟩
theorem Kept.owns {S : Nat → Prop} {w w' : World} (h : Kept S w w') {base : Nat} {e : TypeId} {size : Nat} {v : Value} {n : Nat} {xs : List Value} (ho : w.ownsRow base e size v n xs) (hn : ∀ k, v.ownBlock = some k → ¬ S k) : w'.ownsRow base e size v n xs := by
  refine ⟨ho.1, ?_⟩
  rcases ho.2 with h0 | ⟨g, cap, cur, rfl, hb, hgg, rest⟩
  · exact .inl h0
  · exact .inr ⟨g, cap, cur, rfl, hb, by rw [h.block g (Array.getElem?_eq_some_iff.1 hgg).1 (hn g rfl)]; exact hgg, rest⟩
theorem Kept.cell {S : Nat → Prop} {w w' : World} (h : Kept S w w') {p : Addr} (hp : p.block < w.heap.size) (hn : ¬ S p.block) : w'.cell? p = w.cell? p := World.cell?_of_block (w := w) (h.block p.block hp hn)
theorem Kept.frozen {S : Nat → Prop} {w w' : World} (h : Kept S w w') {p : Addr} (hp : p.block < w.heap.size) (hn : ¬ S p.block) : w'.frozen? p = w.frozen? p := World.frozen?_of_block (w := w) (h.block p.block hp hn)
theorem Kept.below {S : Nat → Prop} {B : Nat} {a w w' : World} (k : Kept S w w') (h : Below B a w) (hB : B ≤ w.heap.size) (hS : ∀ i, S i → B ≤ i) : Below B a w' :=
  h.trans ⟨k.os, k.tape, k.output, k.size, fun i hi => k.block i (by omega) (fun hs => by have := hS i hs; omega)⟩
theorem Kept.mono {S T : Nat → Prop} {w w' : World} (h : Kept S w w') (hST : ∀ i, i < w.heap.size → S i → T i) : Kept T w w' :=
  ⟨h.os, h.tape, h.output, h.size, fun k hk hn => h.block k hk (fun hs => hn (hST k hk hs))⟩
end Go.Proofs.YbulkhmiFmt
