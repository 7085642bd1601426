import Derived.Test.Qxb6601492aSJLit
import Derived.Deep.DeepCutAuto
namespace Go.Proofs.Qxb6601492a.SJ
open Go.RowKit

/-- What 'zzValueEnd' does at the place p. -/
def Reads (ta : Option Addr) (n cap : Nat) (f : Nat → Nat) (p : Nat) : Prop :=
  ∀ w, Text w ta n f → Calls Try.prog 13 #[.slice ta n cap, .int .i64 p] w fun e w' => (∃ r : Int, e = .returned (.int .i64 r) ∧ (r = -1 ∨ ∃ e : Nat, r = e ∧ Val f n p e)) ∧ ∃ q, w' = w.drewN q

section
variable {ta : Option Addr} {n cap : Nat} {f : Nat → Nat} {w : World}
theorem pass_comma {p i : Nat} (h : Pass f n p i) (hc : f i = 44 ∨ f i = 58) : Pass f n p (i + 1) :=
  h.trans (Pass.one (by omega) (by unfold Open; omega) (by unfold Shuts; omega))
set_option maxRecDepth 100000 in
set_option maxHeartbeats 2000000 in
/-- 'zzArrayEnd' -/
theorem c27 {p : Nat} (hp : p < n) (hn : n ≤ 1048576) (h91 : f p = 91) (ht : Text w ta n f) (hv : ∀ i, p < i → i ≤ n → Reads ta n cap f i) :
    Calls Try.prog 27 #[.slice ta n cap, .int .i64 p] w fun e w' => (∃ r : Int, e = .returned (.int .i64 r) ∧ (r = -1 ∨ ∃ e : Nat, r = e ∧ e ≤ n ∧ p < e ∧ Nest f n p e)) ∧ ∃ q, w' = w.drewN q := by
  refine calls_hide fun R' hR => ?_
  have HV : Hid (∀ i, p < i → i ≤ n → Reads ta n cap f i) := hv
  have HT : Hid (Text w ta n f) := ht
  have H91 : Hid (f p = 91) := h91
  obtain ⟨tb, rfl, hrow⟩ := ht.row (by omega)
  have Hrow : Hid (Row w tb n (fun i => .int .u8 (f i : Int))) := hrow
  clear hrow ht hv h91
  go_enter Try.func27, Try.ntmps27
  go_wp2_with fail
  have e1 : ((p : Int) + 1) = ((p + 1 : Nat) : Int) := by omega
  rw [e1]
  clear e1
  refine (c14 (by omega) hn HT.out).mono ?_
  rintro e w1 ⟨⟨j, rfl, hpj, hj0, hpass⟩, rfl⟩
  have hjn : j ≤ n := by omega
  clear hj0
  have HP : Hid (Pass f n (p + 1) j) := hpass
  clear hpass
  have g0 : decide ((j : Int) < 0) = false := decide_eq_false (by omega)
  go_upto_region 2 with (fail)
  go_cut [21] (fun s wc => wc = w1 ∧ ∃ b : Bool, s = .bool b ∧ (b = true → j < n ∧ f j = 93))
  case first =>
    by_cases hlt : j < n
    · have ci := Row.cell Hrow.out hlt
      obtain ⟨c, hc⟩ : ∃ c, c = f j := ⟨_, rfl⟩
      rw [← hc] at ci
      have Hc : Hid (c = f j) := hc
      clear hc
      by_cases h0 : c = 93
      · subst h0
        go_wp2_with fail
        go_meet
        case rel => exact ⟨rfl, true, rfl, fun _ => ⟨hlt, Hc.out.symm⟩⟩
      · have d0 : ((c : Int) == 93) = false := by simp; omega
        go_wp2_with fail
        go_meet
        case rel => exact ⟨rfl, false, rfl, fun h => by simp at h⟩
    · go_wp2_with fail
      go_meet
      case rel => exact ⟨rfl, false, rfl, fun h => by simp at h⟩
  case rest =>
    obtain ⟨rfl, b, rfl, hb⟩ := hcut
    have HB : Hid (b = true → j < n ∧ f j = 93) := hb
    clear hb
    cases b with
    | true =>
      obtain ⟨hlt, h93⟩ := HB.out rfl
      have HN : Hid (Nest f n p (j + 1)) := ⟨Or.inr H91.out, j, HP.out, Or.inr h93, rfl⟩
      clear h93
      go_wp2_with fail
      exact hR.out _ _ ⟨⟨_, rfl, Or.inr ⟨j + 1, by omega, hlt, by omega, HN.out⟩⟩, 0, rfl⟩
    | false =>
      clear HB
      go_wp2_with fail
      clear g0
      go_loopw [5] (fun v wr => ∃ j q : Nat, v = .int .i64 j ∧ wr = wc.drewN q ∧ p + 1 ≤ j ∧ j ≤ n ∧ Pass f n (p + 1) j) (fun v _ => n - (intOf v).toNat)
      case atStart => exact ⟨j, 0, rfl, rfl, hpj, hjn, HP.out⟩
      case round =>
        clear HP hpj hjn j
        obtain ⟨j, q, rfl, rfl, hpj, hjn, hp1⟩ := hrel
        have HP : Hid (Pass f n (p + 1) j) := hp1
        clear hp1
        by_cases hlt : j < n
        · go_wp2_with fail
          refine (HV.out j (by omega) hjn _ (HT.out.drewN q)).mono ?_
          rintro e w1 ⟨⟨r, rfl, hr⟩, q1, rfl⟩
          rcases hr with rfl | ⟨e, rfl, hval⟩
          · go_wp2_with fail
            exact hR.out _ _ ⟨⟨_, rfl, Or.inl rfl⟩, q + q1, by simp⟩
          · have hje := hval.lt
            have hen := hval.le
            have HP1 : Hid (Pass f n (p + 1) e) := HP.out.trans hval.pass
            clear hval HP
            have g1 : decide ((e : Int) < 0) = false := decide_eq_false (by omega)
            go_wp2_with fail
            refine (c14 (i := e) (by omega) hn (HT.out.drewN _)).mono ?_
            rintro e' w1 ⟨⟨j', rfl, hej, hj0, hpass⟩, rfl⟩
            have hjn' : j' ≤ n := by omega
            clear hj0
            have HP2 : Hid (Pass f n (p + 1) j') := HP1.out.trans hpass
            clear hpass HP1
            by_cases hlt' : j' < n
            · have ci := Row.cell Hrow.out hlt'
              obtain ⟨c, hc⟩ : ∃ c, c = f j' := ⟨_, rfl⟩
              rw [← hc] at ci
              have Hc : Hid (c = f j') := hc
              clear hc
              have g2 : decide ((j' : Int) < 0) = false := decide_eq_false (by omega)
              by_cases h0 : c = 93
              · subst h0
                go_wp2_with fail
                have HN : Hid (Nest f n p (j' + 1)) := ⟨Or.inr H91.out, j', HP2.out, Or.inr Hc.out.symm, rfl⟩
                exact hR.out _ _ ⟨⟨_, rfl, Or.inr ⟨j' + 1, by omega, hlt', by omega, HN.out⟩⟩, q + q1, by simp⟩
              · have d0 : ((c : Int) == 93) = false := by simp; omega
                by_cases h1 : c = 44
                · subst h1
                  go_wp2_with fail
                  have e1 : ((j' : Int) + 1) = ((j' + 1 : Nat) : Int) := by omega
                  rw [e1]
                  clear e1
                  refine (c14 (i := j' + 1) (by omega) hn (HT.out.drewN _)).mono ?_
                  rintro e' w1 ⟨⟨j2, rfl, hej2, hj0, hpass⟩, rfl⟩
                  have hjn2 : j2 ≤ n := by omega
                  clear hj0
                  have HP3 : Hid (Pass f n (p + 1) j2) := (pass_comma HP2.out (Or.inl Hc.out.symm)).trans hpass
                  clear hpass HP2
                  go_wp2_with fail
                  go_roundw
                  case rel => exact ⟨j2, q + q1, rfl, by simp, by omega, hjn2, HP3.out⟩
                  case measure => simp [intOf]; omega
                · have d1 : ((c : Int) != 44) = true := by simp; omega
                  go_wp2_with fail
                  exact hR.out _ _ ⟨⟨_, rfl, Or.inl rfl⟩, q + q1, by simp⟩
            · go_wp2_with fail
              exact hR.out _ _ ⟨⟨_, rfl, Or.inl rfl⟩, q + q1, by simp⟩
        · go_wp2_with fail
          exact hR.out _ _ ⟨⟨_, rfl, Or.inl rfl⟩, q, rfl⟩
end
end Go.Proofs.Qxb6601492a.SJ
