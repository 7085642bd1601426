/-
  The plain mathematics of strings in JSON texts.
-/
namespace Go.Proofs.Qxb6601492a.SJ

/-- Where the string that is open at i ends: the place of its closing quote (a backslash hides what follows it). -/
def scan (f : Nat → Nat) : Nat → Nat → Option Nat
  | 0, _ => none
  | d + 1, i => if f i = 34 then some i else if f i = 92 then scan f d (i + 2) else scan f d (i + 1)

theorem scan_le {f : Nat → Nat} {d i q : Nat} (h : scan f d i = some q) : i ≤ q := by
  induction d generalizing i with
  | zero => simp [scan] at h
  | succ d ih =>
    rw [scan] at h
    split at h
    · simp at h; omega
    · split at h
      · have := ih h; omega
      · have := ih h; omega
theorem scan_quote {f : Nat → Nat} {d i q : Nat} (h : scan f d i = some q) : f q = 34 := by
  induction d generalizing i with
  | zero => simp [scan] at h
  | succ d ih =>
    rw [scan] at h
    split at h
    · simp at h; subst h; assumption
    · split at h
      · exact ih h
      · exact ih h
theorem scan_fuel {f : Nat → Nat} {d i q : Nat} (h : scan f d i = some q) (d' : Nat) (hd : d ≤ d') : scan f d' i = some q := by
  induction d generalizing i d' with
  | zero => simp [scan] at h
  | succ d ih =>
    obtain ⟨e, rfl⟩ : ∃ e, d' = e + 1 := ⟨d' - 1, by omega⟩
    rw [scan] at h ⊢
    split at h
    · rename_i h1; rw [if_pos h1]; exact h
    · rename_i h1
      rw [if_neg h1]
      split at h
      · rename_i h2; rw [if_pos h2]; exact ih h e (by omega)
      · rename_i h2; rw [if_neg h2]; exact ih h e (by omega)

/-- The first quote that an even run of backslashes goes before. -/
def cq (f : Nat → Nat) : Nat → Nat → Nat → Option Nat
  | 0, _, _ => none
  | d + 1, i, run => if f i = 34 ∧ run % 2 = 0 then some i else cq f d (i + 1) (if f i = 92 then run + 1 else 0)

theorem cq_lt {f : Nat → Nat} {d i run q : Nat} (h : cq f d i run = some q) : i ≤ q ∧ q < i + d := by
  induction d generalizing i run with
  | zero => simp [cq] at h
  | succ d ih =>
    rw [cq] at h
    split at h
    · simp at h; omega
    · have := ih h; omega
/-- An odd run hides the next byte. -/
theorem scan_cq {f : Nat → Nat} {d i run q : Nat} (h : cq f d i run = some q) : if run % 2 = 0 then scan f d i = some q else scan f d (i + 1) = some q := by
  induction d generalizing i run with
  | zero => simp [cq] at h
  | succ d ih =>
    rw [cq] at h
    by_cases hr : run % 2 = 0
    · rw [if_pos hr]
      by_cases h1 : f i = 34
      · rw [if_pos ⟨h1, hr⟩] at h
        rw [scan, if_pos h1]
        exact h
      · rw [if_neg (fun h => h1 h.1)] at h
        rw [scan, if_neg h1]
        by_cases h2 : f i = 92
        · rw [if_pos h2] at h ⊢
          have := ih h
          rw [if_neg (by omega)] at this
          exact this
        · rw [if_neg h2] at h ⊢
          have := ih h
          rw [if_pos (by omega)] at this
          exact this
    · rw [if_neg hr]
      rw [if_neg (fun h => hr h.2)] at h
      by_cases h2 : f i = 92
      · rw [if_pos h2] at h
        have := ih h
        rw [if_pos (by omega)] at this
        exact scan_fuel this _ (by omega)
      · rw [if_neg h2] at h
        have := ih h
        rw [if_pos (by omega)] at this
        exact scan_fuel this _ (by omega)
end Go.Proofs.Qxb6601492a.SJ
