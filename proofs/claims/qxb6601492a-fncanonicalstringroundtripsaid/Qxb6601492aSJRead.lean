import Derived.Test.Qxb6601492aSJSkip
import Derived.Test.Qxb6601492aSJJson
namespace Go.Proofs.Qxb6601492a.SJ
open Go.RowKit

theorem c30 {c : Nat} {w : World} : Calls Try.prog 30 #[.int .u8 c] w fun e w' => (∃ b : Bool, e = .returned (.bool b) ∧ (b = true ↔ IsWS c)) ∧ w' = w := by
  refine calls_hide fun R' hR => ?_
  by_cases h1 : c = 32
  · subst h1
    go_enter Try.func30, Try.ntmps30
    go_wp2
    exact hR.out _ _ ⟨⟨_, rfl, by simp [IsWS]⟩, rfl⟩
  by_cases h2 : c = 9
  · subst h2
    go_enter Try.func30, Try.ntmps30
    go_wp2
    exact hR.out _ _ ⟨⟨_, rfl, by simp [IsWS]⟩, rfl⟩
  by_cases h3 : c = 13
  · subst h3
    go_enter Try.func30, Try.ntmps30
    go_wp2
    exact hR.out _ _ ⟨⟨_, rfl, by simp [IsWS]⟩, rfl⟩
  by_cases h4 : c = 10
  · subst h4
    go_enter Try.func30, Try.ntmps30
    go_wp2
    exact hR.out _ _ ⟨⟨_, rfl, by simp [IsWS]⟩, rfl⟩
  have d1 : ((c : Int) == 32) = false := by simp; omega
  have d2 : ((c : Int) == 9) = false := by simp; omega
  have d3 : ((c : Int) == 13) = false := by simp; omega
  have d4 : ((c : Int) == 10) = false := by simp; omega
  go_enter Try.func30, Try.ntmps30
  go_wp2
  exact hR.out _ _ ⟨⟨_, rfl, by simp [IsWS]; omega⟩, rfl⟩
theorem c38 {c : Nat} {w : World} : Calls Try.prog 38 #[.int .u8 c] w fun e w' => (∃ b : Bool, e = .returned (.bool b) ∧ (b = true ↔ IsWS c)) ∧ w' = w := by
  refine calls_hide fun R' hR => ?_
  by_cases h1 : c = 32
  · subst h1
    go_enter Try.func38, Try.ntmps38
    go_wp2
    exact hR.out _ _ ⟨⟨_, rfl, by simp [IsWS]⟩, rfl⟩
  by_cases h2 : c = 9
  · subst h2
    go_enter Try.func38, Try.ntmps38
    go_wp2
    exact hR.out _ _ ⟨⟨_, rfl, by simp [IsWS]⟩, rfl⟩
  by_cases h3 : c = 13
  · subst h3
    go_enter Try.func38, Try.ntmps38
    go_wp2
    exact hR.out _ _ ⟨⟨_, rfl, by simp [IsWS]⟩, rfl⟩
  by_cases h4 : c = 10
  · subst h4
    go_enter Try.func38, Try.ntmps38
    go_wp2
    exact hR.out _ _ ⟨⟨_, rfl, by simp [IsWS]⟩, rfl⟩
  have d1 : ((c : Int) == 32) = false := by simp; omega
  have d2 : ((c : Int) == 9) = false := by simp; omega
  have d3 : ((c : Int) == 13) = false := by simp; omega
  have d4 : ((c : Int) == 10) = false := by simp; omega
  go_enter Try.func38, Try.ntmps38
  go_wp2
  exact hR.out _ _ ⟨⟨_, rfl, by simp [IsWS]; omega⟩, rfl⟩

theorem ends_of {c : Nat} (h : IsWS c) : Ends c := Or.inl h
theorem c23 {c : Nat} {w : World} : Calls Try.prog 23 #[.int .u8 c] w fun e w' => (∃ b : Bool, e = .returned (.bool b) ∧ (b = true ↔ Ends c)) ∧ w' = w := by
  refine calls_hide fun R' hR => ?_
  go_enter Try.func23, Try.ntmps23
  go_wp2_with fail
  refine c30.mono ?_
  rintro e w1 ⟨⟨b, rfl, hb⟩, rfl⟩
  cases b with
  | true =>
    have HT : Hid (Ends c) := ends_of (hb.1 rfl)
    clear hb
    go_wp2_with fail
    exact hR.out _ _ ⟨⟨_, rfl, ⟨fun _ => HT.out, fun _ => rfl⟩⟩, rfl⟩
  | false =>
    have HN : Hid (¬ IsWS c) := fun h => by simpa using hb.2 h
    clear hb
    by_cases h1 : c = 44
    · subst h1
      go_wp2_with fail
      exact hR.out _ _ ⟨⟨_, rfl, by simp [Ends]⟩, rfl⟩
    by_cases h2 : c = 125
    · subst h2
      go_wp2_with fail
      exact hR.out _ _ ⟨⟨_, rfl, by simp [Ends]⟩, rfl⟩
    by_cases h3 : c = 93
    · subst h3
      go_wp2_with fail
      exact hR.out _ _ ⟨⟨_, rfl, by simp [Ends]⟩, rfl⟩
    have d1 : ((c : Int) == 44) = false := by simp; omega
    have d2 : ((c : Int) == 125) = false := by simp; omega
    have d3 : ((c : Int) == 93) = false := by simp; omega
    go_wp2_with fail
    exact hR.out _ _ ⟨⟨_, rfl, ⟨fun h => by simp at h, fun h => by
      rcases h with h | h | h | h
      · exact absurd h HN.out
      all_goals omega⟩⟩, rfl⟩
theorem c35 {c : Nat} {w : World} : Calls Try.prog 35 #[.int .u8 c] w fun e w' => (∃ b : Bool, e = .returned (.bool b) ∧ (b = true ↔ Ends c)) ∧ w' = w := by
  refine calls_hide fun R' hR => ?_
  go_enter Try.func35, Try.ntmps35
  go_wp2_with fail
  refine c38.mono ?_
  rintro e w1 ⟨⟨b, rfl, hb⟩, rfl⟩
  cases b with
  | true =>
    have HT : Hid (Ends c) := ends_of (hb.1 rfl)
    clear hb
    go_wp2_with fail
    exact hR.out _ _ ⟨⟨_, rfl, ⟨fun _ => HT.out, fun _ => rfl⟩⟩, rfl⟩
  | false =>
    have HN : Hid (¬ IsWS c) := fun h => by simpa using hb.2 h
    clear hb
    by_cases h1 : c = 44
    · subst h1
      go_wp2_with fail
      exact hR.out _ _ ⟨⟨_, rfl, by simp [Ends]⟩, rfl⟩
    by_cases h2 : c = 125
    · subst h2
      go_wp2_with fail
      exact hR.out _ _ ⟨⟨_, rfl, by simp [Ends]⟩, rfl⟩
    by_cases h3 : c = 93
    · subst h3
      go_wp2_with fail
      exact hR.out _ _ ⟨⟨_, rfl, by simp [Ends]⟩, rfl⟩
    have d1 : ((c : Int) == 44) = false := by simp; omega
    have d2 : ((c : Int) == 125) = false := by simp; omega
    have d3 : ((c : Int) == 93) = false := by simp; omega
    go_wp2_with fail
    exact hR.out _ _ ⟨⟨_, rfl, ⟨fun h => by simp at h, fun h => by
      rcases h with h | h | h | h
      · exact absurd h HN.out
      all_goals omega⟩⟩, rfl⟩

def IsDigit (c : Nat) : Prop := 48 ≤ c ∧ c ≤ 57
theorem c37 {c : Nat} {w : World} : Calls Try.prog 37 #[.int .u8 c] w fun e w' => (∃ b : Bool, e = .returned (.bool b) ∧ (b = true ↔ IsDigit c)) ∧ w' = w := by
  refine calls_hide fun R' hR => ?_
  by_cases h1 : 48 ≤ c
  · by_cases h2 : c ≤ 57
    · go_enter Try.func37, Try.ntmps37
      go_wp2
      exact hR.out _ _ ⟨⟨_, rfl, by simp [IsDigit]; omega⟩, rfl⟩
    · go_enter Try.func37, Try.ntmps37
      go_wp2
      exact hR.out _ _ ⟨⟨_, rfl, by simp [IsDigit]; omega⟩, rfl⟩
  · go_enter Try.func37, Try.ntmps37
    go_wp2
    exact hR.out _ _ ⟨⟨_, rfl, by simp [IsDigit]; omega⟩, rfl⟩

section
variable {ta : Option Addr} {n cap : Nat} {f : Nat → Nat} {w : World}
/-- 'zzSkipWS' -/
theorem c14 {i : Nat} (_hi : i ≤ 1048577) (hn : n ≤ 1048576) (ht : Text w ta n f) :
    Calls Try.prog 14 #[.slice ta n cap, .int .i64 i] w fun e w' => (∃ j : Nat, e = .returned (.int .i64 j) ∧ i ≤ j ∧ (j ≤ n ∨ j = i) ∧ Pass f n i j) ∧ w' = w := by
  refine calls_hide fun R' hR => ?_
  have Ht : Hid _ := ht
  clear ht
  go_enter Try.func14, Try.ntmps14
  go_wp2_with fail
  go_loop [1] (fun v => ∃ j : Nat, v = .int .i64 j ∧ i ≤ j ∧ (j ≤ n ∨ j = i) ∧ Pass f n i j) (fun v => n - (intOf v).toNat)
  case atStart => exact ⟨i, rfl, Nat.le_refl _, Or.inr rfl, Pass.refl i⟩
  case round =>
    obtain ⟨j, rfl, hij, hj, hp⟩ := hrel
    have HP : Hid _ := hp
    clear hp
    have g0 : (0 : Int) ≤ (j : Int) := by omega
    by_cases hlt : j < n
    · obtain ⟨b, rfl, ck⟩ := Ht.out.cell hlt
      obtain ⟨c, hc⟩ : ∃ c, c = f j := ⟨_, rfl⟩
      rw [← hc] at ck
      have Hc : Hid _ := hc
      clear hc
      go_wp2_with fail
      refine c30.mono ?_
      rintro e w1 ⟨⟨b', rfl, hb⟩, rfl⟩
      cases b' with
      | true =>
        have HB : Hid (IsWS c) := hb.1 rfl
        clear hb
        go_wp2_with fail
        go_round
        case rel =>
          refine ⟨j + 1, by go_num, by omega, Or.inl (by omega), Pass.trans HP.out (Pass.one ?_ ?_ ?_)⟩
          all_goals
            have h1 : IsWS c := HB.out
            rw [Hc.out] at h1
            unfold IsWS at h1
            try unfold Open
            try unfold Shuts
            omega
        case measure => simp [intOf]; omega
      | false =>
        clear hb
        go_wp2_with fail
        exact hR.out _ _ ⟨⟨j, rfl, hij, hj, HP.out⟩, rfl⟩
    · go_wp2_with fail
      exact hR.out _ _ ⟨⟨j, rfl, hij, hj, HP.out⟩, rfl⟩
end
end Go.Proofs.Qxb6601492a.SJ
