/-
  The plain mathematics of passing over a JSON value.
-/
import Derived.Test.Qxb6601492aSJPlain
namespace Go.Proofs.Qxb6601492a.SJ

def IsWS (c : Nat) : Prop := c = 32 ∨ c = 9 ∨ c = 13 ∨ c = 10
def Ends (c : Nat) : Prop := IsWS c ∨ c = 44 ∨ c = 125 ∨ c = 93
def Open (c : Nat) : Prop := c = 123 ∨ c = 91
def Shuts (c : Nat) : Prop := c = 125 ∨ c = 93

section
variable (f : Nat → Nat) (n : Nat)
/-- k rounds of skip's loop, from the place i at the depth D. -/
def run : Nat → Nat → Nat → Option (Nat × Nat)
  | 0, i, D => some (i, D)
  | k + 1, i, D =>
    if f i = 34 then (match scan f n (i + 1) with
      | some q => run k (q + 1) D
      | none => none)
    else if f i = 123 ∨ f i = 91 then run k (i + 1) (D + 1)
    else if f i = 125 ∨ f i = 93 then (if D ≤ 1 then none else run k (i + 1) (D - 1))
    else run k (i + 1) D
/-- The loop comes from p to e, and is as deep as it was. -/
def Pass (p e : Nat) : Prop := ∀ D, 1 ≤ D → ∃ k, run f n k p D = some (e, D)
end

section
variable {f : Nat → Nat} {n : Nat}
theorem run_add {k k' i D j E : Nat} {r : Option (Nat × Nat)} (h1 : run f n k i D = some (j, E)) (h2 : run f n k' j E = r) : run f n (k + k') i D = r := by
  induction k generalizing i D with
  | zero =>
    simp only [run, Option.some.injEq, Prod.mk.injEq] at h1
    obtain ⟨rfl, rfl⟩ := h1
    rw [Nat.zero_add]
    exact h2
  | succ k ih =>
    rw [show k + 1 + k' = (k + k') + 1 by omega]
    rw [run] at h1 ⊢
    split at h1
    · rename_i h
      rw [if_pos h]
      split at h1
      · exact ih h1
      · simp at h1
    · rename_i h
      rw [if_neg h]
      split at h1
      · rename_i h3
        rw [if_pos h3]
        exact ih h1
      · rename_i h3
        rw [if_neg h3]
        split at h1
        · rename_i h4
          rw [if_pos h4]
          split at h1
          · simp at h1
          · rename_i h5
            rw [if_neg h5]
            exact ih h1
        · rename_i h4
          rw [if_neg h4]
          exact ih h1
theorem Pass.refl (p : Nat) : Pass f n p p := fun _ _ => ⟨0, rfl⟩
theorem Pass.trans {p m e : Nat} (h1 : Pass f n p m) (h2 : Pass f n m e) : Pass f n p e := fun D hD => by
  obtain ⟨k, hk⟩ := h1 D hD
  obtain ⟨k', hk'⟩ := h2 D hD
  exact ⟨k + k', run_add hk hk'⟩
theorem Pass.one {p : Nat} (h1 : f p ≠ 34) (h2 : ¬ Open (f p)) (h3 : ¬ Shuts (f p)) : Pass f n p (p + 1) := fun D _ => ⟨1, by
  rw [run, if_neg h1, if_neg (show ¬ (f p = 123 ∨ f p = 91) from h2), if_neg (show ¬ (f p = 125 ∨ f p = 93) from h3)]
  rfl⟩
theorem Pass.str {p q : Nat} (h1 : f p = 34) (h2 : scan f n (p + 1) = some q) : Pass f n p (q + 1) := fun D _ => ⟨1, by
  rw [run, if_pos h1, h2]
  rfl⟩
/-- An object or an array. -/
structure Nest (f : Nat → Nat) (n p e : Nat) : Prop where
  op : Open (f p)
  ins : ∃ m, Pass f n (p + 1) m ∧ Shuts (f m) ∧ e = m + 1
theorem Nest.pass {p e : Nat} (h : Nest f n p e) : Pass f n p e := fun D hD => by
  obtain ⟨m, h1, h2, rfl⟩ := h.ins
  obtain ⟨k, hk⟩ := h1 (D + 1) (by omega)
  have ho : f p ≠ 34 := by have := h.op; unfold Open at this; omega
  have s1 : run f n 1 p D = some (p + 1, D + 1) := by
    rw [run, if_neg ho, if_pos (show f p = 123 ∨ f p = 91 from h.op)]
    rfl
  have hm : f m ≠ 34 := by unfold Shuts at h2; omega
  have hm2 : ¬ (f m = 123 ∨ f m = 91) := by unfold Shuts at h2; omega
  have s3 : run f n 1 m (D + 1) = some (m + 1, D) := by
    rw [run, if_neg hm, if_neg hm2, if_pos (show f m = 125 ∨ f m = 93 from h2), if_neg (by omega)]
    rfl
  exact ⟨1 + (k + 1), run_add s1 (run_add hk s3)⟩
/-- A number or a literal: no byte of it ends a value or means anything to skip. -/
def Solid (f : Nat → Nat) (p e : Nat) : Prop := ∀ i, p ≤ i → i < e → ¬ Ends (f i) ∧ f i ≠ 34 ∧ ¬ Open (f i) ∧ ¬ Shuts (f i)
theorem Solid.pass {p e : Nat} (h : Solid f p e) (hle : p ≤ e) : Pass f n p e := by
  obtain ⟨d, rfl⟩ : ∃ d, e = p + d := ⟨e - p, by omega⟩
  induction d with
  | zero => exact Pass.refl p
  | succ d ih =>
    have := h (p + d) (by omega) (by omega)
    exact (ih (fun i h1 h2 => h i h1 (by omega)) (by omega)).trans (Pass.one this.2.1 this.2.2.1 this.2.2.2)
/-- What the reader finds of a value. -/
structure Val (f : Nat → Nat) (n p e : Nat) : Prop where
  lt : p < e
  le : e ≤ n
  str : f p = 34 → scan f n (p + 1) = some (e - 1)
  nest : Open (f p) → Nest f n p e
  solid : f p ≠ 34 → ¬ Open (f p) → Solid f p e
theorem Val.pass {p e : Nat} (h : Val f n p e) : Pass f n p e := by
  by_cases h1 : f p = 34
  · have := Pass.str h1 (h.str h1)
    rw [show e - 1 + 1 = e by have := h.lt; omega] at this
    exact this
  · by_cases h2 : Open (f p)
    · exact (h.nest h2).pass
    · exact (h.solid h1 h2).pass (Nat.le_of_lt h.lt)
end
end Go.Proofs.Qxb6601492a.SJ
