/-
  The plain mathematics of the percent encoding.
-/
namespace Go.Proofs.Qxb6602103a.RE

def Unres (c : Nat) : Prop := (65 ≤ c ∧ c ≤ 90) ∨ (97 ≤ c ∧ c ≤ 122) ∨ (48 ≤ c ∧ c ≤ 57) ∨ c = 45 ∨ c = 46 ∨ c = 95 ∨ c = 126
def unresB (c : Nat) : Bool := (65 ≤ c && c ≤ 90) || (97 ≤ c && c ≤ 122) || (48 ≤ c && c ≤ 57) || c == 45 || c == 46 || c == 95 || c == 126
theorem unresB_iff (c : Nat) : unresB c = true ↔ Unres c := by
  simp only [unresB, Unres, Bool.or_eq_true, Bool.and_eq_true, decide_eq_true_eq, beq_iff_eq]
  omega
/-- A digit of sixteen, in upper case. -/
def hX (d : Nat) : Nat := if d < 10 then 48 + d else 55 + d
/-- One byte as it is written. -/
def enc (c : Nat) : List Nat := if unresB c = true then [c] else [37, hX (c / 16), hX (c % 16)]
def encs (f : Nat → Nat) : Nat → List Nat
  | 0 => []
  | k + 1 => encs f k ++ enc (f k)
theorem enc_len (c : Nat) : 1 ≤ (enc c).length ∧ (enc c).length ≤ 3 := by unfold enc; split <;> simp
theorem encs_len (f : Nat → Nat) (k : Nat) : (encs f k).length ≤ 3 * k := by
  induction k with
  | zero => simp [encs]
  | succ k ih => rw [encs, List.length_append]; have := (enc_len (f k)).2; omega
theorem encs_ge (f : Nat → Nat) (k : Nat) : k ≤ (encs f k).length := by
  induction k with
  | zero => simp
  | succ k ih => rw [encs, List.length_append]; have := (enc_len (f k)).1; omega
theorem encs_split (f : Nat → Nat) {k n : Nat} (h : k < n) : ∃ r, encs f n = encs f k ++ enc (f k) ++ r := by
  induction n with
  | zero => omega
  | succ n ih =>
    by_cases e : k = n
    · subst e; exact ⟨[], by rw [encs]; simp⟩
    · obtain ⟨r, hr⟩ := ih (by omega)
      exact ⟨r ++ enc (f n), by rw [encs, hr]; simp⟩
/-- What stands behind the first k. -/
theorem encs_at (f : Nat → Nat) {k n : Nat} (h : k < n) {j : Nat} (hj : j < (enc (f k)).length) : (encs f n).getD ((encs f k).length + j) 0 = (enc (f k)).getD j 0 := by
  obtain ⟨r, hr⟩ := encs_split f h
  rw [hr, List.append_assoc, List.getD_eq_getElem?_getD, List.getElem?_append_right (by omega), List.getElem?_append_left (by omega), List.getD_eq_getElem?_getD]
  congr 2
  omega
theorem encs_lt (f : Nat → Nat) {k n : Nat} (h : k < n) : (encs f k).length + (enc (f k)).length ≤ (encs f n).length := by
  obtain ⟨r, hr⟩ := encs_split f h
  rw [hr]
  simp only [List.length_append]
  omega
theorem hX_lt {d : Nat} (h : d < 16) : hX d < 256 ∧ hX d ≠ 37 := by unfold hX; split <;> omega

/-- The 66 bytes that stand for themselves. -/
def alpha : List Nat := [65, 66, 67, 68, 69, 70, 71, 72, 73, 74, 75, 76, 77, 78, 79, 80, 81, 82, 83, 84, 85, 86, 87, 88, 89, 90, 97, 98, 99, 100, 101, 102, 103, 104, 105, 106, 107, 108, 109, 110, 111, 112, 113, 114, 115, 116, 117, 118, 119, 120, 121, 122, 48, 49, 50, 51, 52, 53, 54, 55, 56, 57, 45, 46, 95, 126]
theorem alpha_unres : ∀ j : Fin 66, unresB (alpha.getD j.val 0) = true ∧ alpha.getD j.val 0 < 256 := by decide
theorem alpha_all : ∀ c : Fin 256, unresB c.val = true → ∃ j : Fin 66, alpha.getD j.val 0 = c.val := by decide +kernel
end Go.Proofs.Qxb6602103a.RE
