import Derived.Test.Qxb6601492aSJPass
namespace Go.Proofs.Qxb6601492a.SJ
open Go.RowKit

section
variable {wb tb n cap : Nat} {f : Nat → Nat} {w : World}
set_option maxRecDepth 100000 in
set_option maxHeartbeats 2000000 in
/-- 'skip' at an object or an array -/
theorem c24n {p e : Nat} (hn : n ≤ 1048576) (hp : p < n) (hen : e ≤ n) (hne : Nest f n p e) (hb : ∀ j, j < n → f j < 256) (h : Wk wb tb n cap f (p : Int) w) :
    Calls Try.prog 24 #[.pointer (some ⟨wb, 0, none⟩)] w fun x w' => x = .returned (.tuple #[]) ∧ Wk wb tb n cap f (e : Int) w' ∧ Below wb w w' := by
  refine calls_hide fun R' hR => ?_
  have e0 := h.c0
  have e1 := h.c1
  have e3 := h.t.cell (i := p) hp
  have q1 : (p : Int) < (n : Int) := by omega
  obtain ⟨m, hpass, hsh, rfl⟩ := hne.ins
  obtain ⟨K, hK⟩ := hpass 1 (Nat.le_refl _)
  have hop := hne.op
  have HO : Hid (Open (f p)) := hop
  have HSh : Hid (Shuts (f m)) := hsh
  have HK : Hid (run f n (K + 1) p 0 = some (m, 1)) := by
    have h34 : f p ≠ 34 := by unfold Open at hop; omega
    show run f n (K + 1) p 0 = some (m, 1)
    rw [run, if_neg h34, if_pos (show f p = 123 ∨ f p = 91 from hop)]
    exact hK
  have HW : Hid (Wk wb tb n cap f (p : Int) w) := h
  have HB : Hid (∀ j, j < n → f j < 256) := hb
  obtain ⟨c, hc⟩ : ∃ c, c = f p := ⟨_, rfl⟩
  rw [← hc] at e3
  have hcc : c = 123 ∨ c = 91 := by rw [hc]; exact hop
  clear h hne hpass hK hop hsh hc hb
  go_enter Try.func24, Try.ntmps24
  rcases hcc with rfl | rfl
  all_goals
    go_wp2_with fail
    go_quiet (fail)
    go_wp2_with fail
    clear e0 e1 e3
    go_loopg [2] (K + 1) (fun k v wr => ∃ j D : Nat, v = .int .i64 D ∧ run f n k j D = some (m, 1) ∧ D ≤ j ∧ (D = 0 → Open (f j)) ∧ Wk wb tb n cap f (j : Int) wr ∧ Below wb w wr)
    case atStart => exact ⟨p, 0, rfl, HK.out, Nat.zero_le _, fun _ => HO.out, HW.out.drewN _, below_drewN (Below.refl _ _) _⟩
    case round =>
      clear HW HK HO
      obtain ⟨j, D, rfl, hrun, hDj, hD0, hwk, hB⟩ := hrel
      have hjm := run_le hrun
      have e0 := hwk.c0
      have e1 := hwk.c1
      have e2 := hwk.f1
      have e3 := hwk.t.cell (i := j) (by omega)
      have q2 : (j : Int) < (n : Int) := by omega
      have g2 : decide ((j : Int) < 0) = false := decide_eq_false (by omega)
      have HR : Hid (Wk wb tb n cap f (j : Int) wr ∧ Below wb w wr) := ⟨hwk, hB⟩
      clear hwk hB
      obtain ⟨c, hc⟩ : ∃ c, c = f j := ⟨_, rfl⟩
      rw [← hc] at e3
      cases gk with
      | zero =>
        obtain ⟨rfl, rfl⟩ := run_zero hrun
        have hcc : c = 125 ∨ c = 93 := by rw [hc]; exact HSh.out
        clear hrun hD0 hc
        rcases hcc with rfl | rfl
        all_goals
          go_wp2_with fail
          go_quiet (fail)
          go_wp2_with fail
          go_end0
          exact hR.out _ _ ⟨rfl, ((HR.out.1.drewN _).set _).cast (by omega), below_at (below_drewN HR.out.2 _) _⟩
      | succ k =>
        by_cases h1 : c = 34
        · obtain ⟨q, hsc, hrun2⟩ := run_str hrun (by rw [← hc]; exact h1)
          have hqm := run_le hrun2
          have hjq := scan_le hsc
          have HRun : Hid (run f n k (q + 1) D = some (m, 1)) := hrun2
          have HSc : Hid (scan f n (j + 1) = some q) := hsc
          have HD : Hid (D = 0 → Open (f (q + 1))) := fun h => by have := hD0 h; rw [← hc, h1] at this; unfold Open at this; omega
          clear hrun hrun2 hsc hD0 hc
          subst h1
          go_wp2_with fail
          go_quiet (fail)
          go_wp2_with fail
          refine (c31 (i := j + 1) (j : Int) (by omega) hn (by omega) HSc.out HB.out (HR.out.1.drewN _)).mono ?_
          rintro e w1 ⟨rfl, hw1, hb1⟩
          have H1 : Hid (Wk wb tb n cap f ((q : Int) + 1) w1 ∧ Below wb w w1) := ⟨hw1, (below_drewN HR.out.2 _).trans hb1⟩
          clear hw1 hb1
          go_wp2_with fail
          go_roundg k
          case rel => exact ⟨q + 1, D, rfl, HRun.out, by omega, HD.out, H1.out.1.cast (by omega), H1.out.2⟩
          case measure => omega
        · have d1 : ((c : Int) == 34) = false := by simp; omega
          by_cases h2 : c = 123 ∨ c = 91
          · have HRun : Hid (run f n k (j + 1) (D + 1) = some (m, 1)) := run_open hrun (by rw [← hc]; exact h2)
            clear hrun hD0 hc h1
            have z : ((D : Int) + 1 == 0) = false := by simp; omega
            rcases h2 with rfl | rfl
            all_goals
              go_wp2_with fail
              go_quiet (fail)
              go_wp2_with fail
              go_roundg k
              case rel => exact ⟨j + 1, D + 1, by go_num, HRun.out, by omega, fun h => by omega, ((HR.out.1.drewN _).set _).cast (by omega), below_at (below_drewN HR.out.2 _) _⟩
              case measure => omega
          · have d2 : ((c : Int) == 123) = false := by simp; omega
            have d3 : ((c : Int) == 91) = false := by simp; omega
            by_cases h3 : c = 125 ∨ c = 93
            · obtain ⟨hD2, hrun2⟩ := run_shut hrun (by rw [← hc]; exact h3)
              have HRun : Hid (run f n k (j + 1) (D - 1) = some (m, 1)) := hrun2
              clear hrun hrun2 hD0 hc h1 h2 d1 d2 d3
              have z : ((D : Int) - 1 == 0) = false := by simp; omega
              rcases h3 with rfl | rfl
              all_goals
                go_wp2_with fail
                go_quiet (fail)
                go_wp2_with fail
                go_roundg k
                case rel => exact ⟨j + 1, D - 1, by go_num, HRun.out, by omega, fun h => by omega, ((HR.out.1.drewN _).set _).cast (by omega), below_at (below_drewN HR.out.2 _) _⟩
                case measure => omega
            · have d4 : ((c : Int) == 125) = false := by simp; omega
              have d5 : ((c : Int) == 93) = false := by simp; omega
              have hD : D ≠ 0 := fun h => by have := hD0 h; rw [← hc] at this; exact h2 this
              have HRun : Hid (run f n k (j + 1) D = some (m, 1)) := run_else hrun (by rw [← hc]; exact h1) (by rw [← hc]; exact h2) (by rw [← hc]; exact h3)
              have z : ((D : Int) == 0) = false := by simp; omega
              clear hrun hD0 hc h1 h2 h3
              go_wp2_with fail
              go_quiet (fail)
              go_wp2_with fail
              go_roundg k
              case rel => exact ⟨j + 1, D, rfl, HRun.out, by omega, fun h => by omega, ((HR.out.1.drewN _).set _).cast (by omega), below_at (below_drewN HR.out.2 _) _⟩
              case measure => omega
end
end Go.Proofs.Qxb6601492a.SJ
