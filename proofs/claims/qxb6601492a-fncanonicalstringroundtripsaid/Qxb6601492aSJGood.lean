/-
  Strings as 'appendUnit' writes them.
-/
import Derived.Test.Qxb6601492aSJUnit
import Derived.Test.Qxb6601492aSJStr
namespace Go.Proofs.Qxb6601492a.SJ
open Go.RowKit

/-- A unit's piece. -/
def pc (u : Nat) : List Nat := if 32 ≤ u ∧ u ≤ 126 ∧ u ≠ 34 ∧ u ≠ 92 then [u] else six u
theorem pc_plain {u : Nat} (h : Plain u) : pc u = [u] := if_pos h
theorem pc_six {u : Nat} (h : ¬ Plain u) : pc u = six u := if_neg h
theorem piece_eq {u : Nat} {p : List Nat} (h : Piece u p) : p = pc u := by
  rcases h with ⟨h, rfl⟩ | ⟨h, rfl⟩
  · exact (pc_plain h).symm
  · exact (pc_six h).symm
theorem piece_pc (u : Nat) : Piece u (pc u) := by
  by_cases h : Plain u
  · exact Or.inl ⟨h, pc_plain h⟩
  · exact Or.inr ⟨h, pc_six h⟩
theorem pc_len (u : Nat) : 1 ≤ (pc u).length ∧ (pc u).length ≤ 6 := by
  by_cases h : Plain u
  · rw [pc_plain h]; exact ⟨Nat.le_refl 1, by show 1 ≤ 6; omega⟩
  · rw [pc_six h]; exact ⟨by show 1 ≤ 6; omega, Nat.le_refl 6⟩
theorem hx_hex {d : Nat} (h : d < 16) : IsHex (hx d) := by
  unfold hx IsHex
  split <;> omega
theorem hx_print {d : Nat} (h : d < 16) : 32 ≤ hx d ∧ hx d ≤ 126 := by
  unfold hx
  split <;> omega
theorem pc_print {u : Nat} (hu : u < 65536) : ∀ c ∈ pc u, 32 ≤ c ∧ c ≤ 126 := by
  intro c hc
  by_cases h : Plain u
  · rw [pc_plain h] at hc
    simp only [List.mem_singleton] at hc
    subst hc
    exact ⟨h.1, h.2.1⟩
  · rw [pc_six h] at hc
    unfold six at hc
    simp only [List.mem_cons, List.not_mem_nil, or_false] at hc
    rcases hc with rfl | rfl | rfl | rfl | rfl | rfl
    · omega
    · omega
    · exact hx_print (by omega)
    · exact hx_print (by omega)
    · exact hx_print (by omega)
    · exact hx_print (by omega)

section
variable {uf : Nat → Nat}
/-- The pieces of the first k units. -/
def body (uf : Nat → Nat) : Nat → List Nat
  | 0 => []
  | k + 1 => body uf k ++ pc (uf k)
/-- Where the k-th piece begins. -/
def bnd (uf : Nat → Nat) (k : Nat) : Nat := 1 + (body uf k).length
theorem bnd_zero : bnd uf 0 = 1 := rfl
theorem bnd_succ (k : Nat) : bnd uf (k + 1) = bnd uf k + (pc (uf k)).length := by
  unfold bnd
  rw [body, List.length_append]
  omega
theorem bnd_mono {k m : Nat} (h : k ≤ m) : bnd uf k ≤ bnd uf m := by
  induction m with
  | zero => obtain rfl : k = 0 := by omega
            exact Nat.le_refl _
  | succ m ih =>
    by_cases e : k = m + 1
    · rw [e]; exact Nat.le_refl _
    · have := ih (by omega)
      rw [bnd_succ]
      omega
theorem bnd_lt {k m : Nat} (h : k < m) : bnd uf k < bnd uf m := by
  have a := bnd_mono (uf := uf) (k := k + 1) (m := m) h
  have b := pc_len (uf k)
  rw [bnd_succ] at a
  omega
theorem bnd_le (k : Nat) : bnd uf k ≤ 1 + 6 * k := by
  induction k with
  | zero => exact Nat.le_refl 1
  | succ k ih =>
    rw [bnd_succ]
    have b := pc_len (uf k)
    omega
theorem body_pre {k m : Nat} (h : k ≤ m) : ∃ t, body uf m = body uf k ++ t := by
  induction m with
  | zero => obtain rfl : k = 0 := by omega
            exact ⟨[], rfl⟩
  | succ m ih =>
    by_cases e : k = m + 1
    · rw [e]; exact ⟨[], by rw [List.append_nil]⟩
    · obtain ⟨t, ht⟩ := ih (by omega)
      exact ⟨t ++ pc (uf m), by rw [body, ht, List.append_assoc]⟩
/-- The whole text. -/
def gtxt (uf : Nat → Nat) (m : Nat) : List Nat := ([34] ++ body uf m) ++ [34]
theorem gtxt_len (m : Nat) : (gtxt uf m).length = bnd uf m + 1 := by
  unfold gtxt bnd
  simp
  omega
/-- What the text says of its bytes. -/
structure Good (f : Nat → Nat) (uf : Nat → Nat) (m : Nat) : Prop where
  first : f 0 = 34
  last : f (bnd uf m) = 34
  mid : ∀ k, k < m → ∀ j, j < (pc (uf k)).length → f (bnd uf k + j) = (pc (uf k)).getD j 0
  pr : ∀ i, i ≤ bnd uf m → 32 ≤ f i ∧ f i ≤ 126
theorem body_print {m : Nat} (hu : ∀ k, k < m → uf k < 65536) : ∀ c ∈ body uf m, 32 ≤ c ∧ c ≤ 126 := by
  induction m with
  | zero => intro c hc; simp [body] at hc
  | succ m ih =>
    intro c hc
    rw [body, List.mem_append] at hc
    rcases hc with hc | hc
    · exact ih (fun k hk => hu k (by omega)) c hc
    · exact pc_print (hu m (by omega)) c hc
theorem good_of {m : Nat} (hu : ∀ k, k < m → uf k < 65536) : Good (fun i => (gtxt uf m).getD i 0) uf m := by
  refine ⟨rfl, ?_, fun k hk j hj => ?_, fun i hi => ?_⟩
  · show (gtxt uf m).getD (bnd uf m) 0 = 34
    unfold gtxt bnd
    rw [List.getD_eq_getElem?_getD, List.getElem?_append_right (by simp; omega)]
    simp
    have : 1 + (body uf m).length - ((body uf m).length + 1) = 0 := by omega
    rw [this]
    rfl
  · show (gtxt uf m).getD (bnd uf k + j) 0 = (pc (uf k)).getD j 0
    obtain ⟨t, ht⟩ := body_pre (uf := uf) (k := k + 1) (m := m) hk
    have e : gtxt uf m = ([34] ++ body uf k) ++ (pc (uf k) ++ (t ++ [34])) := by
      unfold gtxt
      rw [ht, body]
      simp only [List.append_assoc]
    have l : ([34] ++ body uf k).length = bnd uf k := by
      unfold bnd
      simp
      omega
    rw [e, List.getD_eq_getElem?_getD, List.getElem?_append_right (by rw [l]; omega), l, List.getElem?_append_left (by omega), List.getD_eq_getElem?_getD, show bnd uf k + j - bnd uf k = j by omega]
  · show 32 ≤ (gtxt uf m).getD i 0 ∧ (gtxt uf m).getD i 0 ≤ 126
    have hl := gtxt_len (uf := uf) m
    rw [List.getD_eq_getElem?_getD, List.getElem?_eq_getElem (by omega)]
    have hmem : (gtxt uf m)[i]'(by omega) ∈ gtxt uf m := List.getElem_mem _
    have key : ∀ c ∈ gtxt uf m, 32 ≤ c ∧ c ≤ 126 := by
      intro c hc
      unfold gtxt at hc
      simp only [List.mem_append, List.mem_singleton] at hc
      rcases hc with (rfl | hc) | rfl
      · omega
      · exact body_print hu c hc
      · omega
    exact key _ hmem

variable {f : Nat → Nat} {m : Nat}
theorem Good.plain (h : Good f uf m) {k : Nat} (hk : k < m) (hp : Plain (uf k)) : f (bnd uf k) = uf k ∧ bnd uf (k + 1) = bnd uf k + 1 := by
  have h1 := h.mid k hk 0 (by have := pc_len (uf k); omega)
  rw [bnd_succ]
  rw [pc_plain hp] at h1 ⊢
  exact ⟨h1, rfl⟩
theorem Good.six (h : Good f uf m) {k : Nat} (hk : k < m) (hp : ¬ Plain (uf k)) (hu : uf k < 65536) : f (bnd uf k) = 92 ∧ f (bnd uf k + 1) = 117 ∧ (∀ j, 2 ≤ j → j < 6 → IsHex (f (bnd uf k + j))) ∧ bnd uf (k + 1) = bnd uf k + 6 := by
  have h1 := h.mid k hk
  rw [bnd_succ]
  rw [pc_six hp] at h1 ⊢
  have hl : (SJ.six (uf k)).length = 6 := rfl
  rw [hl] at h1
  refine ⟨h1 0 (by omega), h1 1 (by omega), fun j h2 h3 => ?_, rfl⟩
  rw [h1 j h3]
  obtain rfl | rfl | rfl | rfl : j = 2 ∨ j = 3 ∨ j = 4 ∨ j = 5 := by omega
  · exact hx_hex (show uf k / 4096 < 16 by omega)
  · exact hx_hex (show uf k / 256 % 16 < 16 by omega)
  · exact hx_hex (show uf k / 16 % 16 < 16 by omega)
  · exact hx_hex (show uf k % 16 < 16 by omega)
theorem Good.scan (h : Good f uf m) (hu : ∀ k, k < m → uf k < 65536) : ∀ d k, k + d = m → scan f (bnd uf m + 1 - bnd uf k) (bnd uf k) = some (bnd uf m) := by
  intro d
  induction d with
  | zero =>
    intro k hk
    obtain rfl : k = m := by omega
    rw [show bnd uf k + 1 - bnd uf k = 0 + 1 by omega, SJ.scan, if_pos h.last]
  | succ d ih =>
    intro k hk
    have hkm : k < m := by omega
    have h1 := ih (k + 1) (by omega)
    have hle := bnd_mono (uf := uf) (k := k + 1) (m := m) hkm
    by_cases hp : Plain (uf k)
    · obtain ⟨a, b⟩ := h.plain hkm hp
      rw [b] at h1 hle
      have := scan_plain (f := f) (i := bnd uf k) (by rw [a]; exact hp.2.2.1) (by rw [a]; exact hp.2.2.2) h1
      exact scan_fuel this _ (by omega)
    · obtain ⟨a, _, c, b⟩ := h.six hkm hp (hu k hkm)
      rw [b] at h1 hle
      have a2 := hex_not (c 2 (by omega) (by omega))
      have a3 := hex_not (c 3 (by omega) (by omega))
      have a4 := hex_not (c 4 (by omega) (by omega))
      have a5 := hex_not (c 5 (by omega) (by omega))
      have s5 := scan_plain (f := f) (i := bnd uf k + 5) a5.1 a5.2 h1
      have s4 := scan_plain (f := f) (i := bnd uf k + 4) a4.1 a4.2 s5
      have s3 := scan_plain (f := f) (i := bnd uf k + 3) a3.1 a3.2 s4
      have s2 := scan_plain (f := f) (i := bnd uf k + 2) a2.1 a2.2 s3
      exact scan_fuel (scan_esc a s2) _ (by omega)
theorem Good.whole (h : Good f uf m) (hu : ∀ k, k < m → uf k < 65536) : SJ.scan f (bnd uf m + 1) 1 = some (bnd uf m) :=
  scan_fuel (h.scan hu m 0 (by omega)) _ (by omega)
end
end Go.Proofs.Qxb6601492a.SJ
