/-
  THE TABLE OF AUDIT CODES, as plain data: the last row that fits (what newFinding's loop takes) is the first (what zzs0409bexpect takes).
-/
import Derived.Test.YbulkhlgDoorRows
namespace Go.Proofs.YbulkhlgDoor

abbrev Bs := List UInt8
def rows : List (Bs × Bs × Bool) := [
  ([99, 121, 99, 108, 101], [70, 65, 84, 65, 76], false),
  ([98, 97, 100, 45, 115, 105, 103, 110, 97, 116, 117, 114, 101], [69, 82, 82, 79, 82], false),
  ([99, 111, 110, 116, 101, 110, 116, 45, 104, 97, 115, 104], [87, 65, 82, 78], false),
  ([100, 117, 112, 108, 105, 99, 97, 116, 101, 45, 105, 100], [69, 82, 82, 79, 82], false),
  ([97, 117, 116, 104, 45, 101, 118, 101, 110, 116, 115, 45, 114, 101, 106, 101, 99, 116], [69, 82, 82, 79, 82], false),
  ([115, 116, 97, 116, 101, 45, 114, 101, 106, 101, 99, 116], [87, 65, 82, 78], false),
  ([117, 110, 107, 110, 111, 119, 110, 45, 114, 101, 102, 101, 114, 101, 110, 99, 101], [87, 65, 82, 78], true),
  ([100, 101, 112, 116, 104, 45, 109, 105, 115, 109, 97, 116, 99, 104], [87, 65, 82, 78], false)]

/-- The loop: each row that fits writes over what was there. -/
def look : List (Bs × Bs × Bool) → Bs → Bs × Bool → Bs × Bool
  | [], _, a => a
  | r :: rs, s, a => look rs s (if r.1 == s then r.2 else a)
/-- The switch: the first row that fits. -/
def first : List (Bs × Bs × Bool) → Bs → Bs × Bool
  | [], _ => ([], false)
  | r :: rs, s => if s == r.1 then r.2 else first rs s

theorem look_snoc (l : List (Bs × Bs × Bool)) (r : Bs × Bs × Bool) (s : Bs) (a : Bs × Bool) : look (l ++ [r]) s a = if r.1 == s then r.2 else look l s a := by
  induction l generalizing a with
  | nil => rfl
  | cons x xs ih => simp only [List.cons_append, look, ih]

theorem look_none (l : List (Bs × Bs × Bool)) (s : Bs) (a : Bs × Bool) (h : ∀ r ∈ l, (r.1 == s) = false) : look l s a = a := by
  induction l generalizing a with
  | nil => rfl
  | cons x xs ih =>
    have h0 := h x (List.mem_cons_self ..)
    simp only [look, h0]
    exact ih a (fun r hr => h r (List.mem_cons_of_mem _ hr))

theorem look_first (l : List (Bs × Bs × Bool)) (hd : l.Pairwise fun a b => a.1 ≠ b.1) (s : Bs) : look l s ([], false) = first l s := by
  induction l with
  | nil => rfl
  | cons x xs ih =>
    rw [List.pairwise_cons] at hd
    by_cases h : x.1 = s
    · have h1 : (x.1 == s) = true := by simpa using h
      have h2 : (s == x.1) = true := by simpa using h.symm
      simp only [look, first, h1, h2, if_true]
      exact look_none xs s x.2 (fun r hr => by
        have := hd.1 r hr
        rw [h] at this
        simpa using fun e => this e.symm)
    · have h1 : (x.1 == s) = false := by simpa using h
      have h2 : (s == x.1) = false := by simpa using fun e => h e.symm
      simp only [look, first, h1, h2]
      exact ih hd.2

theorem rows_apart : rows.Pairwise fun a b => a.1 ≠ b.1 := by decide
theorem rows_len : rows.length = 8 := rfl

/-- behind k rounds of the loop -/
def sofar (s : Bs) (k : Nat) : Bs × Bool := look (rows.take k) s ([], false)
theorem sofar_zero (s : Bs) : sofar s 0 = ([], false) := rfl
theorem sofar_all (s : Bs) : sofar s 8 = first rows s := look_first rows rows_apart s
theorem sofar_succ (s : Bs) (k : Nat) (h : k < rows.length) : sofar s (k + 1) = if rows[k].1 == s then rows[k].2 else sofar s k := by
  unfold sofar
  rw [List.take_succ_eq_append_getElem h, look_snoc]
end Go.Proofs.YbulkhlgDoor
