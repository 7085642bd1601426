/-
  The plain mathematics of the laws over 'components': a breadth-first search marks just what is reached; two numberings with one partition have one count.
-/
import Derived.Test.Qxb6601391aTJPlain
namespace Go.Proofs.Qxb6601391a.TJ

/-- How many of the first k vertices bear the mark s. -/
def marked (mark : Nat → Int) (s : Int) : Nat → Nat
  | 0 => 0
  | k + 1 => marked mark s k + if mark k = s then 1 else 0
theorem marked_same {m m' : Nat → Int} {s : Int} {k : Nat} (h : ∀ x, x < k → m x = m' x) : marked m s k = marked m' s k := by
  induction k with
  | zero => rfl
  | succ k ih => rw [marked, marked, ih (fun x hx => h x (by omega)), h k (by omega)]
theorem marked_none {m : Nat → Int} {s : Int} {k : Nat} (h : ∀ x, x < k → m x ≠ s) : marked m s k = 0 := by
  induction k with
  | zero => rfl
  | succ k ih => rw [marked, ih (fun x hx => h x (by omega)), if_neg (h k (by omega))]
theorem marked_le (m : Nat → Int) (s : Int) (k : Nat) : marked m s k ≤ k := by
  induction k with
  | zero => simp [marked]
  | succ k ih => rw [marked]; split <;> omega
theorem marked_lt {m : Nat → Int} {s : Int} {w k : Nat} (hw : w < k) (h : m w ≠ s) : marked m s k < k := by
  induction k with
  | zero => omega
  | succ k ih =>
    rw [marked]
    by_cases e : w = k
    · subst e
      rw [if_neg h]
      have := marked_le m s w
      omega
    · have := ih (by omega)
      split <;> omega
theorem marked_upd {m : Nat → Int} {s : Int} {w k : Nat} (hw : w < k) (h : m w ≠ s) : marked (upd m w s) s k = marked m s k + 1 := by
  induction k with
  | zero => omega
  | succ k ih =>
    rw [marked, marked]
    by_cases e : w = k
    · subst e
      rw [marked_same (m := upd m w s) (m' := m) (fun x hx => upd_other _ _ _ (by omega)), upd_same, if_pos rfl, if_neg h]
    · rw [ih (by omega), upd_other _ _ _ (show k ≠ w by omega)]
      omega

section
variable (n : Nat) (start to : Nat → Nat)

/-- The search from u: the first 'tail' of q are marked, the first 'head' of them are done. -/
structure Bfs (u : Nat) (mark : Nat → Int) (s : Int) (q : Nat → Nat) (head tail : Nat) : Prop where
  num : tail = marked mark s n
  mem : ∀ i, i < tail → q i < n ∧ mark (q i) = s ∧ Reach (Adj start to) u (q i)
  all : ∀ v, v < n → mark v = s → ∃ i, i < tail ∧ q i = v
  done : ∀ i, i < head → ∀ j, start (q i) ≤ j → j < start (q i + 1) → mark (to j) = s
  root : mark u = s
  le : head ≤ tail
end

section
variable {n : Nat} {start to : Nat → Nat} {u : Nat} {mark : Nat → Int} {s : Int} {q : Nat → Nat} {head tail : Nat}

theorem bfs_start (hu : u < n) (h : ∀ v, v < n → mark v ≠ s) : Bfs n start to u (upd mark u s) s (upd q 0 u) 0 1 := by
  refine ⟨?_, ?_, ?_, fun i hi => by omega, upd_same _ _ _, by omega⟩
  · rw [marked_upd hu (h u hu), marked_none h]
  · intro i hi
    obtain rfl : i = 0 := by omega
    rw [upd_same, upd_same]
    exact ⟨hu, rfl, Reach.refl _⟩
  · intro v hv hm
    by_cases e : v = u
    · exact ⟨0, by omega, by rw [upd_same, e]⟩
    · rw [upd_other _ _ _ e] at hm
      exact absurd hm (h v hv)

/-- A new vertex is marked: w, to which the vertex x of the search leads. -/
theorem bfs_push (h : Bfs n start to u mark s q head tail) {w : Nat} (hw : w < n) (hm : mark w ≠ s) (hr : Reach (Adj start to) u w) : Bfs n start to u (upd mark w s) s (upd q tail w) head (tail + 1) := by
  have hne : ∀ v, mark v = s → v ≠ w := fun v hv e => by rw [e] at hv; exact hm hv
  refine ⟨by rw [marked_upd hw hm, h.num], ?_, ?_, ?_, ?_, by have := h.le; omega⟩
  · intro i hi
    by_cases e : i = tail
    · rw [e, upd_same, upd_same]; exact ⟨hw, rfl, hr⟩
    · obtain ⟨q1, q2, q3⟩ := h.mem i (by omega)
      rw [upd_other _ _ _ e]
      by_cases e2 : q i = w
      · rw [e2, upd_same]; exact ⟨hw, rfl, hr⟩
      · rw [upd_other _ _ _ e2]; exact ⟨q1, q2, q3⟩
  · intro v hv hmv
    by_cases e : v = w
    · exact ⟨tail, by omega, by rw [upd_same, e]⟩
    · rw [upd_other _ _ _ e] at hmv
      obtain ⟨i, hi, e2⟩ := h.all v hv hmv
      exact ⟨i, by omega, by rw [upd_other _ _ _ (by omega)]; exact e2⟩
  · intro i hi j hj1 hj2
    have hle := h.le
    rw [upd_other _ _ _ (show i ≠ tail by omega)] at hj1 hj2
    have := h.done i hi j hj1 hj2
    by_cases e : to j = w
    · rw [e, upd_same]
    · rw [upd_other _ _ _ e]; exact this
  · rw [upd_other _ _ _ (hne u h.root)]; exact h.root

/-- All edges of the vertex at the head are followed. -/
theorem bfs_next (h : Bfs n start to u mark s q head tail) (hlt : head < tail) (hd : ∀ j, start (q head) ≤ j → j < start (q head + 1) → mark (to j) = s) : Bfs n start to u mark s q (head + 1) tail := by
  refine ⟨h.num, h.mem, h.all, ?_, h.root, by omega⟩
  intro i hi
  by_cases e : i = head
  · rw [e]; exact hd
  · exact h.done i (by omega)

/-- The search has ended: just what u leads to is marked. -/
theorem bfs_end (h : Bfs n start to u mark s q tail tail) (hu : u < n) (hedge : ∀ v, v < n → ∀ j, start v ≤ j → j < start (v + 1) → to j < n) {v : Nat} (hv : v < n) : mark v = s ↔ Reach (Adj start to) u v := by
  constructor
  · intro hm
    obtain ⟨i, hi, rfl⟩ := h.all v hv hm
    exact (h.mem i hi).2.2
  · intro hr
    have := hr.carry (fun x => x < n ∧ mark x = s) ⟨hu, h.root⟩ (fun x y hx ha => by
      obtain ⟨j, h1, h2, rfl⟩ := ha
      obtain ⟨i, hi, rfl⟩ := h.all x hx.1 hx.2
      exact ⟨hedge _ hx.1 j h1 h2, h.done i hi j h1 h2⟩)
    exact this.2

/-- What a vertex leads to has no greater number. -/
theorem Res.reach_le {comp : Nat → Int} {count : Nat} (h : Res n start to comp count) (hedge : ∀ v, v < n → ∀ j, start v ≤ j → j < start (v + 1) → to j < n) {u v : Nat} (hu : u < n) (hr : Reach (Adj start to) u v) : v < n ∧ comp v ≤ comp u := by
  refine hr.carry (fun x => x < n ∧ comp x ≤ comp u) ⟨hu, Int.le_refl _⟩ (fun x y hx ha => ?_)
  have := h.succ x y hx.1 ha
  obtain ⟨j, h1, h2, rfl⟩ := ha
  exact ⟨hedge x hx.1 j h1 h2, Int.le_trans this hx.2⟩

end
end Go.Proofs.Qxb6601391a.TJ
