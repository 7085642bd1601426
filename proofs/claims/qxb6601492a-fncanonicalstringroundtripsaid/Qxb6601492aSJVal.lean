import Derived.Test.Qxb6601492aSJNum
import Derived.Test.Qxb6601492aSJObj
namespace Go.Proofs.Qxb6601492a.SJ
open Go.RowKit

section
variable {ta : Option Addr} {n cap : Nat} {f : Nat → Nat} {w : World}
theorem Val.ofSolid {p e : Nat} (h1 : p < e) (h2 : e ≤ n) (h : Solid f p e) : Val f n p e :=
  ⟨h1, h2, fun h3 => absurd h3 (h p (Nat.le_refl _) h1).2.1, fun h3 => absurd h3 (h p (Nat.le_refl _) h1).2.2.1, fun _ _ => h⟩
theorem Val.ofNest {p e : Nat} (h1 : p < e) (h2 : e ≤ n) (h : Nest f n p e) : Val f n p e :=
  ⟨h1, h2, fun h3 => by have := h.op; unfold Open at this; omega, fun _ => h, fun _ h3 => absurd h.op h3⟩
theorem Val.ofStr {p q : Nat} (h1 : p < q) (h2 : q < n) (h3 : f p = 34) (h : scan f n (p + 1) = some q) : Val f n p (q + 1) :=
  ⟨by omega, h2, fun _ => h, fun h4 => by unfold Open at h4; omega, fun h4 _ => absurd h3 h4⟩
theorem solid_lit {p : Nat} {s : ByteArray} (hs : ∀ k, k < s.size → 97 ≤ byt s k ∧ byt s k ≤ 122) (h : ∀ k, k < s.size → f (p + k) = byt s k) : Solid f p (p + s.size) := fun i h1 h2 => by
  have a := hs (i - p) (by omega)
  have b := h (i - p) (by omega)
  rw [show p + (i - p) = i by omega] at b
  rw [← b] at a
  unfold Ends IsWS Open Shuts
  omega
theorem lit_true : ∀ k, k < (ByteArray.mk #[116, 114, 117, 101]).size → 97 ≤ byt (ByteArray.mk #[116, 114, 117, 101]) k ∧ byt (ByteArray.mk #[116, 114, 117, 101]) k ≤ 122 := by decide
theorem lit_false : ∀ k, k < (ByteArray.mk #[102, 97, 108, 115, 101]).size → 97 ≤ byt (ByteArray.mk #[102, 97, 108, 115, 101]) k ∧ byt (ByteArray.mk #[102, 97, 108, 115, 101]) k ≤ 122 := by decide
theorem lit_null : ∀ k, k < (ByteArray.mk #[110, 117, 108, 108]).size → 97 ≤ byt (ByteArray.mk #[110, 117, 108, 108]) k ∧ byt (ByteArray.mk #[110, 117, 108, 108]) k ≤ 122 := by decide

set_option maxRecDepth 100000 in
set_option maxHeartbeats 2000000 in
/-- 'zzValueEnd', where it is known at the later places. -/
theorem c13s {p : Nat} (hp : p ≤ n) (hn : n ≤ 1048576) (ht : Text w ta n f) (hv : ∀ i, p < i → i ≤ n → Reads ta n cap f i) :
    Calls Try.prog 13 #[.slice ta n cap, .int .i64 p] w fun e w' => (∃ r : Int, e = .returned (.int .i64 r) ∧ (r = -1 ∨ ∃ e : Nat, r = e ∧ Val f n p e)) ∧ ∃ q, w' = w.drewN q := by
  refine calls_hide fun R' hR => ?_
  have g0 : decide ((p : Int) < 0) = false := decide_eq_false (by omega)
  by_cases hlt : p < n
  · have HV : Hid (∀ i, p < i → i ≤ n → Reads ta n cap f i) := hv
    have HT : Hid (Text w ta n f) := ht
    obtain ⟨tb, rfl, hrow⟩ := ht.row (by omega)
    have cp := hrow.cell hlt
    clear hrow ht hv
    obtain ⟨c, hc⟩ : ∃ c, c = f p := ⟨_, rfl⟩
    rw [← hc] at cp
    have Hc : Hid (c = f p) := hc
    clear hc
    by_cases h1 : c = 34
    · subst h1
      go_enter Try.func13, Try.ntmps13
      go_wp2_with fail
      refine (c25 (p := p) (by omega) hn HT.out).mono ?_
      rintro e0 w1 ⟨⟨r, rfl, hr⟩, rfl⟩
      have Hr : Hid (r = -1 ∨ ∃ e : Nat, r = e ∧ Val f n p e) := by
        rcases hr with rfl | ⟨x, rfl, hjx, hxn, h34, hscan⟩
        · exact Or.inl rfl
        · exact Or.inr ⟨x + 1, by omega, Val.ofStr hjx hxn h34 hscan⟩
      clear hr
      go_wp2_with fail
      exact hR.out _ _ ⟨⟨_, rfl, Hr.out⟩, 0, rfl⟩
    have d1 : ((c : Int) == 34) = false := by simp; omega
    by_cases h2 : c = 123
    · subst h2
      go_enter Try.func13, Try.ntmps13
      go_wp2_with fail
      refine (c26 (p := p) hlt hn Hc.out.symm HT.out HV.out).mono ?_
      rintro e0 w1 ⟨⟨r, rfl, hr⟩, q, rfl⟩
      have Hr : Hid (r = -1 ∨ ∃ e : Nat, r = e ∧ Val f n p e) := by
        rcases hr with rfl | ⟨x, rfl, hxn, hpx, hne⟩
        · exact Or.inl rfl
        · exact Or.inr ⟨x, rfl, Val.ofNest hpx hxn hne⟩
      clear hr
      go_wp2_with fail
      exact hR.out _ _ ⟨⟨_, rfl, Hr.out⟩, q, rfl⟩
    have d2 : ((c : Int) == 123) = false := by simp; omega
    by_cases h3 : c = 91
    · subst h3
      go_enter Try.func13, Try.ntmps13
      go_wp2_with fail
      refine (c27 (p := p) hlt hn Hc.out.symm HT.out HV.out).mono ?_
      rintro e0 w1 ⟨⟨r, rfl, hr⟩, q, rfl⟩
      have Hr : Hid (r = -1 ∨ ∃ e : Nat, r = e ∧ Val f n p e) := by
        rcases hr with rfl | ⟨x, rfl, hxn, hpx, hne⟩
        · exact Or.inl rfl
        · exact Or.inr ⟨x, rfl, Val.ofNest hpx hxn hne⟩
      clear hr
      go_wp2_with fail
      exact hR.out _ _ ⟨⟨_, rfl, Hr.out⟩, q, rfl⟩
    have d3 : ((c : Int) == 91) = false := by simp; omega
    by_cases h4 : c = 116
    · subst h4
      go_enter Try.func13, Try.ntmps13
      go_wp2_with fail
      refine (c28 (p := p) (by decide) hlt hn HT.out).mono ?_
      rintro e0 w1 ⟨⟨r, rfl, hr⟩, q, rfl⟩
      have Hr : Hid (r = -1 ∨ ∃ e : Nat, r = e ∧ Val f n p e) := by
        rcases hr with rfl | ⟨rfl, hxn, hall⟩
        · exact Or.inl rfl
        · exact Or.inr ⟨_, by rw [Int.natCast_add], Val.ofSolid (Nat.lt_add_of_pos_right (by decide)) hxn (solid_lit lit_true hall)⟩
      clear hr
      go_wp2_with fail
      exact hR.out _ _ ⟨⟨_, rfl, Hr.out⟩, q, rfl⟩
    have d4 : ((c : Int) == 116) = false := by simp; omega
    by_cases h5 : c = 102
    · subst h5
      go_enter Try.func13, Try.ntmps13
      go_wp2_with fail
      refine (c28 (p := p) (by decide) hlt hn HT.out).mono ?_
      rintro e0 w1 ⟨⟨r, rfl, hr⟩, q, rfl⟩
      have Hr : Hid (r = -1 ∨ ∃ e : Nat, r = e ∧ Val f n p e) := by
        rcases hr with rfl | ⟨rfl, hxn, hall⟩
        · exact Or.inl rfl
        · exact Or.inr ⟨_, by rw [Int.natCast_add], Val.ofSolid (Nat.lt_add_of_pos_right (by decide)) hxn (solid_lit lit_false hall)⟩
      clear hr
      go_wp2_with fail
      exact hR.out _ _ ⟨⟨_, rfl, Hr.out⟩, q, rfl⟩
    have d5 : ((c : Int) == 102) = false := by simp; omega
    by_cases h6 : c = 110
    · subst h6
      go_enter Try.func13, Try.ntmps13
      go_wp2_with fail
      refine (c28 (p := p) (by decide) hlt hn HT.out).mono ?_
      rintro e0 w1 ⟨⟨r, rfl, hr⟩, q, rfl⟩
      have Hr : Hid (r = -1 ∨ ∃ e : Nat, r = e ∧ Val f n p e) := by
        rcases hr with rfl | ⟨rfl, hxn, hall⟩
        · exact Or.inl rfl
        · exact Or.inr ⟨_, by rw [Int.natCast_add], Val.ofSolid (Nat.lt_add_of_pos_right (by decide)) hxn (solid_lit lit_null hall)⟩
      clear hr
      go_wp2_with fail
      exact hR.out _ _ ⟨⟨_, rfl, Hr.out⟩, q, rfl⟩
    have d6 : ((c : Int) == 110) = false := by simp; omega
    by_cases h7 : c = 45 ∨ c = 48 ∨ c = 49 ∨ c = 50 ∨ c = 51 ∨ c = 52 ∨ c = 53 ∨ c = 54 ∨ c = 55 ∨ c = 56 ∨ c = 57
    · clear d1 d2 d3 d4 d5 d6 h1 h2 h3 h4 h5 h6
      rcases h7 with rfl | rfl | rfl | rfl | rfl | rfl | rfl | rfl | rfl | rfl | rfl
      all_goals
        go_enter Try.func13, Try.ntmps13
        go_wp2_with fail
        refine (c29 (p := p) hlt hn HT.out).mono ?_
        rintro e0 w1 ⟨⟨r, rfl, hr⟩, rfl⟩
        have Hr : Hid (r = -1 ∨ ∃ e : Nat, r = e ∧ Val f n p e) := by
          rcases hr with rfl | ⟨x, rfl, hpx, hnum⟩
          · exact Or.inl rfl
          · exact Or.inr ⟨x, rfl, Val.ofSolid hpx hnum.hi hnum.solid⟩
        clear hr
        go_wp2_with fail
        exact hR.out _ _ ⟨⟨_, rfl, Hr.out⟩, 0, rfl⟩
    · have d7 : ((c : Int) == 45) = false := by simp; omega
      have d8 : ((c : Int) == 48) = false := by simp; omega
      have d9 : ((c : Int) == 49) = false := by simp; omega
      have d10 : ((c : Int) == 50) = false := by simp; omega
      have d11 : ((c : Int) == 51) = false := by simp; omega
      have d12 : ((c : Int) == 52) = false := by simp; omega
      have d13 : ((c : Int) == 53) = false := by simp; omega
      have d14 : ((c : Int) == 54) = false := by simp; omega
      have d15 : ((c : Int) == 55) = false := by simp; omega
      have d16 : ((c : Int) == 56) = false := by simp; omega
      have d17 : ((c : Int) == 57) = false := by simp; omega
      clear h1 h2 h3 h4 h5 h6 h7
      go_enter Try.func13, Try.ntmps13
      go_wp2_with fail
      exact hR.out _ _ ⟨⟨_, rfl, Or.inl rfl⟩, 0, rfl⟩
  · clear hv
    go_enter Try.func13, Try.ntmps13
    go_wp2_with fail
    exact hR.out _ _ ⟨⟨_, rfl, Or.inl rfl⟩, 0, rfl⟩
theorem reads (hn : n ≤ 1048576) : ∀ d p, p + d = n → Reads ta n cap f p := by
  intro d
  induction d using Nat.strongRecOn with
  | _ d ih =>
    intro p hpd w ht
    exact c13s (by omega) hn ht (fun i h1 h2 => ih (n - i) (by omega) i (by omega))
/-- 'zzValueEnd' -/
theorem c13 {p : Nat} (hp : p ≤ n) (hn : n ≤ 1048576) (ht : Text w ta n f) :
    Calls Try.prog 13 #[.slice ta n cap, .int .i64 p] w fun e w' => (∃ r : Int, e = .returned (.int .i64 r) ∧ (r = -1 ∨ ∃ e : Nat, r = e ∧ Val f n p e)) ∧ ∃ q, w' = w.drewN q :=
  reads hn (n - p) p (by omega) w ht
end
end Go.Proofs.Qxb6601492a.SJ
