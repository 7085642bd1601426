import Derived.Test.Qxb6601492aSJRead
namespace Go.Proofs.Qxb6601492a.SJ
open Go.RowKit

def IsHex (c : Nat) : Prop := (48 ≤ c ∧ c ≤ 57) ∨ (97 ≤ c ∧ c ≤ 102) ∨ (65 ≤ c ∧ c ≤ 70)
theorem c36 {c : Nat} {w : World} : Calls Try.prog 36 #[.int .u8 c] w fun e w' => (∃ b : Bool, e = .returned (.bool b) ∧ (b = true ↔ IsHex c)) ∧ w' = w := by
  refine calls_hide fun R' hR => ?_
  go_enter Try.func36, Try.ntmps36
  go_wp2_with fail
  refine c37.mono ?_
  rintro e w1 ⟨⟨b, rfl, hb⟩, rfl⟩
  cases b with
  | true =>
    have HT : Hid (IsHex c) := Or.inl (hb.1 rfl)
    clear hb
    go_wp2_with fail
    exact hR.out _ _ ⟨⟨_, rfl, ⟨fun _ => HT.out, fun _ => rfl⟩⟩, rfl⟩
  | false =>
    have HN : Hid (¬ IsDigit c) := fun h => by simpa using hb.2 h
    clear hb
    by_cases h1 : 97 ≤ c
    · by_cases h2 : c ≤ 102
      · go_wp2_with fail
        exact hR.out _ _ ⟨⟨_, rfl, by simp [IsHex]; omega⟩, rfl⟩
      · go_wp2_with fail
        exact hR.out _ _ ⟨⟨_, rfl, by simp [IsHex]; omega⟩, rfl⟩
    · by_cases h3 : 65 ≤ c
      · by_cases h4 : c ≤ 70
        · go_wp2_with fail
          exact hR.out _ _ ⟨⟨_, rfl, by simp [IsHex]; omega⟩, rfl⟩
        · go_wp2_with fail
          exact hR.out _ _ ⟨⟨_, rfl, by simp [IsHex]; omega⟩, rfl⟩
      · have hn : ¬ (48 ≤ c ∧ c ≤ 57) := HN.out
        go_wp2_with fail
        exact hR.out _ _ ⟨⟨_, rfl, by simp [IsHex]; omega⟩, rfl⟩

/-- Four hex digits mean nothing to 'scan'. -/
theorem scan_plain {f : Nat → Nat} {i q : Nat} (h1 : f i ≠ 34) (h2 : f i ≠ 92) {d : Nat} (h : scan f d (i + 1) = some q) : scan f (d + 1) i = some q := by
  rw [scan, if_neg h1, if_neg h2]
  exact h
theorem scan_esc {f : Nat → Nat} {i q : Nat} (h2 : f i = 92) {d : Nat} (h : scan f d (i + 2) = some q) : scan f (d + 1) i = some q := by
  rw [scan, if_neg (by omega), if_pos h2]
  exact h
/-- The reader has come to i, no escape open. -/
structure Rch (f : Nat → Nat) (p i : Nat) : Prop where
  le : p + 1 ≤ i
  go : ∀ d q, scan f d i = some q → scan f (d + (i - (p + 1))) (p + 1) = some q
theorem Rch.start {f : Nat → Nat} (p : Nat) : Rch f p (p + 1) := ⟨Nat.le_refl _, fun d q h => by rw [Nat.sub_self]; exact h⟩
theorem Rch.one {f : Nat → Nat} {p i : Nat} (h : Rch f p i) (h1 : f i ≠ 34) (h2 : f i ≠ 92) : Rch f p (i + 1) :=
  ⟨by have := h.le; omega, fun d q hs => scan_fuel (h.go _ _ (scan_plain h1 h2 hs)) _ (by have := h.le; omega)⟩
theorem Rch.two {f : Nat → Nat} {p i : Nat} (h : Rch f p i) (h2 : f i = 92) : Rch f p (i + 2) :=
  ⟨by have := h.le; omega, fun d q hs => scan_fuel (h.go _ _ (scan_esc h2 hs)) _ (by have := h.le; omega)⟩
theorem hex_not {c : Nat} (h : IsHex c) : c ≠ 34 ∧ c ≠ 92 := by unfold IsHex at h; omega
theorem Rch.six {f : Nat → Nat} {p i : Nat} (h : Rch f p i) (h2 : f i = 92) (hh : ∀ j, 2 ≤ j → j < 6 → IsHex (f (i + j))) : Rch f p (i + 6) := by
  have a2 := hex_not (hh 2 (by omega) (by omega))
  have a3 := hex_not (hh 3 (by omega) (by omega))
  have a4 := hex_not (hh 4 (by omega) (by omega))
  have a5 := hex_not (hh 5 (by omega) (by omega))
  exact ((((h.two h2).one a2.1 a2.2).one a3.1 a3.2).one a4.1 a4.2).one a5.1 a5.2
theorem Rch.stop {f : Nat → Nat} {p i n : Nat} (h : Rch f p i) (h1 : f i = 34) (hn : i < n) : scan f n (p + 1) = some i := by
  have := h.go 1 i (by rw [scan, if_pos h1])
  exact scan_fuel this _ (by have := h.le; omega)

section
variable {ta : Option Addr} {n cap : Nat} {f : Nat → Nat} {w : World}
set_option maxRecDepth 100000 in
set_option maxHeartbeats 2000000 in
/-- 'zzStringEnd' -/
theorem c25 {p : Nat} (hp : p ≤ 1048577) (hn : n ≤ 1048576) (ht : Text w ta n f) :
    Calls Try.prog 25 #[.slice ta n cap, .int .i64 p] w fun e w' => (∃ r : Int, e = .returned (.int .i64 r) ∧ (r = -1 ∨ ∃ q : Nat, r = (q : Int) + 1 ∧ p < q ∧ q < n ∧ f p = 34 ∧ scan f n (p + 1) = some q)) ∧ w' = w := by
  refine calls_hide fun R' hR => ?_
  have Ht : Hid _ := ht
  clear ht
  have g0 : decide ((p : Int) < 0) = false := decide_eq_false (by omega)
  by_cases hpn : p < n
  · obtain ⟨tb, rfl, hrow⟩ := Ht.out.row (by omega)
    have Hrow : Hid (Row w tb n (fun i => .int .u8 (f i : Int))) := hrow
    have ck := hrow.cell hpn
    clear hrow
    obtain ⟨c0, hc0⟩ : ∃ c, c = f p := ⟨_, rfl⟩
    rw [← hc0] at ck
    by_cases h34 : c0 = 34
    · have H34 : Hid (f p = 34) := by show f p = 34; rw [← hc0]; exact h34
      subst h34
      clear hc0
      go_enter Try.func25, Try.ntmps25
      go_wp2_with fail
      go_loop [5] (fun v => ∃ i : Nat, v = .int .i64 i ∧ i ≤ n ∧ p + 1 ≤ i ∧ Rch f p i) (fun v => n - (intOf v).toNat)
      case atStart => exact ⟨p + 1, by go_num, by omega, Nat.le_refl _, Rch.start p⟩
      case round =>
        clear ck
        obtain ⟨i, rfl, hin, hpi, hr⟩ := hrel
        have HR : Hid (Rch f p i) := hr
        clear hr
        by_cases hlt : i < n
        · have ci := Row.cell Hrow.out hlt
          obtain ⟨c, hc⟩ : ∃ c, c = f i := ⟨_, rfl⟩
          rw [← hc] at ci
          have Hc : Hid (c = f i) := hc
          clear hc
          by_cases h1 : c = 34
          · have HS : Hid (scan f n (p + 1) = some i) := HR.out.stop (by rw [← Hc.out]; exact h1) hlt
            subst h1
            go_wp2_with fail
            exact hR.out _ _ ⟨⟨_, rfl, Or.inr ⟨i, rfl, by omega, hlt, H34.out, HS.out⟩⟩, rfl⟩
          · have d1 : ((c : Int) == 34) = false := by simp; omega
            by_cases h2 : c < 32
            · go_wp2_with fail
              exact hR.out _ _ ⟨⟨_, rfl, Or.inl rfl⟩, rfl⟩
            · by_cases h3 : c = 92
              · have H92 : Hid (f i = 92) := by show f i = 92; rw [← Hc.out]; exact h3
                subst h3
                by_cases h5 : i + 1 < n
                · have ci1 := Row.cell Hrow.out h5
                  obtain ⟨e, he⟩ : ∃ e, e = f (i + 1) := ⟨_, rfl⟩
                  rw [← he] at ci1
                  clear he
                  have H2 : Hid (Rch f p (i + 2)) := HR.out.two H92.out
                  by_cases h6 : e = 34 ∨ e = 92 ∨ e = 47 ∨ e = 98 ∨ e = 102 ∨ e = 110 ∨ e = 114 ∨ e = 116
                  · rcases h6 with rfl | rfl | rfl | rfl | rfl | rfl | rfl | rfl
                    all_goals
                      go_wp2_with fail
                      go_round
                      case rel => exact ⟨i + 2, by go_num, by omega, by omega, H2.out⟩
                      case measure => simp [intOf]; omega
                  · have k1 : ((e : Int) == 34) = false := by simp; omega
                    have k2 : ((e : Int) == 92) = false := by simp; omega
                    have k3 : ((e : Int) == 47) = false := by simp; omega
                    have k4 : ((e : Int) == 98) = false := by simp; omega
                    have k5 : ((e : Int) == 102) = false := by simp; omega
                    have k6 : ((e : Int) == 110) = false := by simp; omega
                    have k7 : ((e : Int) == 114) = false := by simp; omega
                    have k8 : ((e : Int) == 116) = false := by simp; omega
                    clear h6
                    by_cases h7 : e = 117
                    · have k9 : ((e : Int) == 117) = true := by simp; omega
                      by_cases h8 : n < i + 6
                      · have q8 : (n : Int) - (i : Int) < 6 := by omega
                        go_wp2_with fail
                        exact hR.out _ _ ⟨⟨_, rfl, Or.inl rfl⟩, rfl⟩
                      · have q8 : ¬ ((n : Int) - (i : Int) < 6) := by omega
                        go_wp2_with fail
                        clear k1 k2 k3 k4 k5 k6 k7 k8 k9
                        go_loop [7] (fun v => ∃ k : Nat, 2 ≤ k ∧ k ≤ 6 ∧ v = .int .i64 k ∧ ∀ j, 2 ≤ j → j < k → IsHex (f (i + j))) (fun v => 6 - (intOf v).toNat)
                        case atStart => exact ⟨2, by omega, by omega, rfl, fun j h1 h2 => by omega⟩
                        case round =>
                          obtain ⟨k, hk1, hk2, rfl, hall⟩ := hrel
                          by_cases hk6 : k < 6
                          · have ck := Row.cell Hrow.out (i := i + k) (by omega)
                            obtain ⟨h, hh⟩ : ∃ h, h = f (i + k) := ⟨_, rfl⟩
                            rw [← hh] at ck
                            have HH : Hid (h = f (i + k)) := hh
                            have HA : Hid (∀ j, 2 ≤ j → j < k → IsHex (f (i + j))) := hall
                            clear hh hall
                            go_wp2_with fail
                            refine c36.mono ?_
                            rintro e' w1 ⟨⟨b, rfl, hb⟩, rfl⟩
                            cases b with
                            | true =>
                              have HX : Hid (∀ j, 2 ≤ j → j < k + 1 → IsHex (f (i + j))) := by
                                intro j q1 q2
                                by_cases ej : j = k
                                · rw [ej, ← HH.out]; exact hb.1 rfl
                                · exact HA.out j q1 (by omega)
                              clear hb
                              go_wp2_with fail
                              go_round
                              case rel => exact ⟨k + 1, by omega, by omega, by go_num, HX.out⟩
                              case measure => simp [intOf]; omega
                            | false =>
                              clear hb
                              go_wp2_with fail
                              exact hR.out _ _ ⟨⟨_, rfl, Or.inl rfl⟩, rfl⟩
                          · obtain rfl : k = 6 := by omega
                            have H6 : Hid (Rch f p (i + 6)) := HR.out.six H92.out hall
                            clear hall
                            go_wp2_with fail
                            go_round
                            case rel => exact ⟨i + 6, by go_num, by omega, by omega, H6.out⟩
                            case measure => simp [intOf]; omega
                    · have k9 : ((e : Int) == 117) = false := by simp; omega
                      go_wp2_with fail
                      exact hR.out _ _ ⟨⟨_, rfl, Or.inl rfl⟩, rfl⟩
                · go_wp2_with fail
                  exact hR.out _ _ ⟨⟨_, rfl, Or.inl rfl⟩, rfl⟩
              · have d2 : ((c : Int) != 92) = true := by simp; omega
                have HN : Hid (Rch f p (i + 1)) := HR.out.one (by rw [← Hc.out]; exact h1) (by rw [← Hc.out]; exact h3)
                go_wp2_with fail
                go_round
                case rel => exact ⟨i + 1, by go_num, by omega, by omega, HN.out⟩
                case measure => simp [intOf]; omega
        · go_wp2_with fail
          exact hR.out _ _ ⟨⟨_, rfl, Or.inl rfl⟩, rfl⟩
    · have d0 : ((c0 : Int) != 34) = true := by simp; omega
      clear hc0
      go_enter Try.func25, Try.ntmps25
      go_wp2_with fail
      exact hR.out _ _ ⟨⟨_, rfl, Or.inl rfl⟩, rfl⟩
  · go_enter Try.func25, Try.ntmps25
    go_wp2_with fail
    exact hR.out _ _ ⟨⟨_, rfl, Or.inl rfl⟩, rfl⟩
end
end Go.Proofs.Qxb6601492a.SJ
