import Derived.Test.Qxb6601492aSJRead
import Derived.Deep.DeepCutAuto
namespace Go.Proofs.Qxb6601492a.SJ
open Go.RowKit

section
variable {f : Nat → Nat} {n : Nat}
theorem run_le {k i D j E : Nat} (h : run f n k i D = some (j, E)) : i ≤ j := by
  induction k generalizing i D with
  | zero =>
    simp only [run, Option.some.injEq, Prod.mk.injEq] at h
    omega
  | succ k ih =>
    rw [run] at h
    split at h
    · split at h
      · rename_i q hq
        have := ih h
        have := scan_le hq
        omega
      · simp at h
    · split at h
      · have := ih h; omega
      · split at h
        · split at h
          · simp at h
          · have := ih h; omega
        · have := ih h; omega
theorem run_zero {i D j E : Nat} (h : run f n 0 i D = some (j, E)) : i = j ∧ D = E := by
  simpa [run] using h
theorem run_str {k i D j E : Nat} (h : run f n (k + 1) i D = some (j, E)) (hc : f i = 34) : ∃ q, scan f n (i + 1) = some q ∧ run f n k (q + 1) D = some (j, E) := by
  rw [run, if_pos hc] at h
  split at h
  · rename_i q hq
    exact ⟨q, hq, h⟩
  · simp at h
theorem run_open {k i D j E : Nat} (h : run f n (k + 1) i D = some (j, E)) (hc : Open (f i)) : run f n k (i + 1) (D + 1) = some (j, E) := by
  have h34 : f i ≠ 34 := by unfold Open at hc; omega
  rw [run, if_neg h34, if_pos (show f i = 123 ∨ f i = 91 from hc)] at h
  exact h
theorem run_shut {k i D j E : Nat} (h : run f n (k + 1) i D = some (j, E)) (hc : Shuts (f i)) : 2 ≤ D ∧ run f n k (i + 1) (D - 1) = some (j, E) := by
  have h34 : f i ≠ 34 := by unfold Shuts at hc; omega
  have ho : ¬ (f i = 123 ∨ f i = 91) := by unfold Shuts at hc; omega
  rw [run, if_neg h34, if_neg ho, if_pos (show f i = 125 ∨ f i = 93 from hc)] at h
  split at h
  · simp at h
  · exact ⟨by omega, h⟩
theorem run_else {k i D j E : Nat} (h : run f n (k + 1) i D = some (j, E)) (h1 : f i ≠ 34) (h2 : ¬ Open (f i)) (h3 : ¬ Shuts (f i)) : run f n k (i + 1) D = some (j, E) := by
  rw [run, if_neg h1, if_neg (show ¬ (f i = 123 ∨ f i = 91) from h2), if_neg (show ¬ (f i = 125 ∨ f i = 93) from h3)] at h
  exact h
end

theorem c35t {c : Nat} {w : World} (h : Ends c) : Calls Try.prog 35 #[.int .u8 c] w fun e w' => e = .returned (.bool true) ∧ w' = w := by
  refine c35.mono ?_
  rintro e w1 ⟨⟨b, rfl, hb⟩, rfl⟩
  rw [hb.2 h]
  exact ⟨rfl, rfl⟩
theorem c35f {c : Nat} {w : World} (h : ¬ Ends c) : Calls Try.prog 35 #[.int .u8 c] w fun e w' => e = .returned (.bool false) ∧ w' = w := by
  refine c35.mono ?_
  rintro e w1 ⟨⟨b, rfl, hb⟩, rfl⟩
  cases b with
  | true => exact absurd (hb.1 rfl) h
  | false => exact ⟨rfl, rfl⟩

section
variable {wb tb n cap : Nat} {f : Nat → Nat} {w : World}

/-- 'skip' at a string -/
theorem c24s {p q : Nat} (hn : n ≤ 1048576) (hp : p < n) (hq : q < n) (h34 : f p = 34) (hs : scan f n (p + 1) = some q) (hb : ∀ j, j < n → f j < 256) (h : Wk wb tb n cap f (p : Int) w) :
    Calls Try.prog 24 #[.pointer (some ⟨wb, 0, none⟩)] w fun e w' => e = .returned (.tuple #[]) ∧ Wk wb tb n cap f ((q : Int) + 1) w' ∧ Below wb w w' := by
  refine calls_hide fun R' hR => ?_
  have e0 := h.c0
  have e1 := h.c1
  have e2 := h.f1
  have e3 := h.t.cell (i := p) hp
  rw [h34] at e3
  have q1 : (p : Int) < (n : Int) := by omega
  have HW : Hid (Wk wb tb n cap f (p : Int) w) := h
  have HB : Hid (∀ j, j < n → f j < 256) := hb
  have HS : Hid (scan f n (p + 1) = some q) := hs
  clear h hb hs h34
  go_enter Try.func24, Try.ntmps24
  go_wp2_with fail
  go_quiet (fail)
  go_wp2_with fail
  refine (c31 (i := p + 1) (p : Int) (by omega) hn hq HS.out HB.out (HW.out.drewN _)).mono ?_
  rintro e w1 ⟨rfl, hw1, hb1⟩
  have H1 : Hid (Wk wb tb n cap f ((q : Int) + 1) w1 ∧ Below wb w w1) := ⟨hw1, (below_drewN (Below.refl _ _) _).trans hb1⟩
  clear hw1 hb1
  go_wp2_with fail
  go_end0
  exact hR.out _ _ ⟨rfl, H1.out.1, H1.out.2⟩

/-- 'skip' at a number or a literal -/
theorem c24o {p e : Nat} (hn : n ≤ 1048576) (hp : p < n) (h34 : f p ≠ 34) (hop : ¬ Open (f p)) (hpe : p ≤ e) (hen : e ≤ n) (hs : Solid f p e) (he : e < n → Ends (f e)) (h : Wk wb tb n cap f (p : Int) w) :
    Calls Try.prog 24 #[.pointer (some ⟨wb, 0, none⟩)] w fun x w' => x = .returned (.tuple #[]) ∧ Wk wb tb n cap f (e : Int) w' ∧ Below wb w w' := by
  refine calls_hide fun R' hR => ?_
  have e0 := h.c0
  have e1 := h.c1
  have e2 := h.f1
  have e3 := h.t.cell (i := p) hp
  have q1 : (p : Int) < (n : Int) := by omega
  obtain ⟨c, hc⟩ : ∃ c, c = f p := ⟨_, rfl⟩
  rw [← hc] at e3
  have d1 : ((c : Int) == 34) = false := by simp; omega
  have d2 : ((c : Int) == 123) = false := by unfold Open at hop; simp; omega
  have d3 : ((c : Int) == 91) = false := by unfold Open at hop; simp; omega
  have HW : Hid (Wk wb tb n cap f (p : Int) w) := h
  have HS : Hid (Solid f p e) := hs
  have HE : Hid (e < n → Ends (f e)) := he
  clear h hs he h34 hop hc
  go_enter Try.func24, Try.ntmps24
  go_wp2_with fail
  go_quiet (fail)
  go_wp2_with fail
  clear d1 d2 d3 e3 e2 e1 e0
  go_loopg [] (e - p) (fun k wr => ∃ j : Nat, j + k = e ∧ p ≤ j ∧ Wk wb tb n cap f (j : Int) wr ∧ Below wb w wr)
  case atStart => exact ⟨p, by omega, Nat.le_refl _, HW.out.drewN _, below_drewN (Below.refl _ _) _⟩
  case round =>
    clear HW
    obtain ⟨j, hjk, hpj, hwk, hB⟩ := hrel
    have e0 := hwk.c0
    have e1 := hwk.c1
    have e2 := hwk.f1
    have HR : Hid (Wk wb tb n cap f (j : Int) wr ∧ Below wb w wr) := ⟨hwk, hB⟩
    by_cases hje : j < e
    · have e3 := hwk.t.cell (i := j) (by omega)
      have q2 : (j : Int) < (n : Int) := by omega
      have g2 : decide ((j : Int) < 0) = false := decide_eq_false (by omega)
      have hne := (HS.out j hpj hje).1
      obtain ⟨c', hc⟩ : ∃ c, c = f j := ⟨_, rfl⟩
      rw [← hc] at e3 hne
      have HNE : Hid (¬ Ends c') := hne
      clear hne hc hwk hB
      go_wp2_with fail
      go_quiet ((go_at_call 35; exact Calls.quiet_of_same (c35f HNE.out)))
      go_wp2_with fail
      go_roundg (gk - 1)
      case rel => exact ⟨j + 1, by omega, by omega, ((HR.out.1.drewN _).set _).cast (by omega), below_at (below_drewN HR.out.2 _) _⟩
      case measure => omega
    · obtain rfl : j = e := by omega
      by_cases hjn : j < n
      · have e3 := hwk.t.cell (i := j) hjn
        have q2 : (j : Int) < (n : Int) := by omega
        have g2 : decide ((j : Int) < 0) = false := decide_eq_false (by omega)
        have hne := HE.out hjn
        obtain ⟨c', hc⟩ : ∃ c, c = f j := ⟨_, rfl⟩
        rw [← hc] at e3 hne
        have HNE : Hid (Ends c') := hne
        clear hne hc hwk hB
        go_wp2_with fail
        go_quiet ((go_at_call 35; exact Calls.quiet_of_same (c35t HNE.out)))
        go_wp2_with fail
        go_end0
        exact hR.out _ _ ⟨rfl, HR.out.1.drewN _, below_drewN HR.out.2 _⟩
      · have q2 : decide ((j : Int) < (n : Int)) = false := decide_eq_false (by omega)
        clear hwk hB
        go_wp2_with fail
        go_quiet (fail)
        go_wp2_with fail
        go_end0
        exact hR.out _ _ ⟨rfl, HR.out.1.drewN _, below_drewN HR.out.2 _⟩
end
end Go.Proofs.Qxb6601492a.SJ
