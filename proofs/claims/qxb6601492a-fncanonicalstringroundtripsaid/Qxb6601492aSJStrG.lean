import Derived.Test.Qxb6601492aSJGood
namespace Go.Proofs.Qxb6601492a.SJ
open Go.RowKit

theorem c36t {c : Nat} {w : World} (h : IsHex c) : Calls Try.prog 36 #[.int .u8 c] w fun e w' => e = .returned (.bool true) ∧ w' = w := by
  refine c36.mono ?_
  rintro e w1 ⟨⟨b, rfl, hb⟩, rfl⟩
  rw [hb.2 h]
  exact ⟨rfl, rfl⟩

section
variable {tb n cap m : Nat} {f uf : Nat → Nat} {w : World}
set_option maxRecDepth 100000 in
set_option maxHeartbeats 2000000 in
/-- 'zzStringEnd' at a string that 'appendUnit' wrote -/
theorem c25g (hm : n = bnd uf m + 1) (hn : n ≤ 1048576) (hg : Good f uf m) (hu : ∀ k, k < m → uf k < 65536) (ht : Row w tb n (fun i => .int .u8 (f i : Int))) :
    Calls Try.prog 25 #[.slice (some ⟨tb, 0, none⟩) n cap, .int .i64 0] w fun e w' => e = .returned (.int .i64 (n : Int)) ∧ w' = w := by
  refine calls_hide fun R' hR => ?_
  have Hrow : Hid (Row w tb n (fun i => .int .u8 (f i : Int))) := ht
  have ck := ht.cell (i := 0) (by omega)
  rw [hg.first] at ck
  have HG : Hid (Good f uf m) := hg
  have HU : Hid (∀ k, k < m → uf k < 65536) := hu
  have HM : Hid (n = bnd uf m + 1) := hm
  have n1 : 1 ≤ n := by omega
  clear ht hg hu hm
  go_enter Try.func25, Try.ntmps25
  go_wp2_with fail
  go_loop [5] (fun v => ∃ k i : Nat, v = .int .i64 i ∧ k ≤ m ∧ i = bnd uf k) (fun v => n - (intOf v).toNat)
  case atStart => exact ⟨0, 1, rfl, Nat.zero_le _, rfl⟩
  case round =>
    clear ck
    obtain ⟨k, i, rfl, hkm, hi⟩ := hrel
    have hin : i < n := by
      have := bnd_mono (uf := uf) hkm
      have := HM.out
      omega
    have ci := Row.cell Hrow.out hin
    by_cases hk : k = m
    · have e34 : f i = 34 := by rw [hi, hk]; exact HG.out.last
      have hni : n = i + 1 := by rw [HM.out, hi, hk]
      rw [e34] at ci
      have HN : Hid ((i : Int) + 1 = n) := by show (i : Int) + 1 = n; omega
      clear hi hk e34 hni
      go_wp2_with fail
      rw [HN.out]
      exact hR.out _ _ ⟨rfl, rfl⟩
    · have hlt : k < m := by omega
      have hi1 : bnd uf (k + 1) < n := by
        have := bnd_mono (uf := uf) (k := k + 1) (m := m) hlt
        have := HM.out
        omega
      by_cases hp : Plain (uf k)
      · obtain ⟨a, b⟩ := HG.out.plain hlt hp
        rw [← hi] at a b
        obtain ⟨h1, h2, h3, h4⟩ := hp
        rw [← a] at h1 h2 h3 h4
        have HB : Hid (i + 1 = bnd uf (k + 1)) := b.symm
        rw [b] at hi1
        obtain ⟨c, hc⟩ : ∃ c, c = f i := ⟨_, rfl⟩
        rw [← hc] at ci h1 h2 h3 h4
        have d1 : ((c : Int) == 34) = false := by simp; omega
        have d2 : ((c : Int) != 92) = true := by simp; omega
        clear hi a b hc h3 h4 hk
        go_wp2_with fail
        go_round
        case rel => exact ⟨k + 1, i + 1, by go_num, hlt, HB.out⟩
        case measure => simp [intOf]; omega
      · obtain ⟨a, a1, hh, b⟩ := HG.out.six hlt hp (HU.out k hlt)
        rw [← hi] at a a1 hh b
        rw [b] at hi1
        have HB : Hid (i + 6 = bnd uf (k + 1)) := b.symm
        rw [a] at ci
        have ci1 := Row.cell Hrow.out (i := i + 1) (by omega)
        rw [a1] at ci1
        have HH : Hid (∀ j, 2 ≤ j → j < 6 → IsHex (f (i + j))) := hh
        have q8 : ¬ ((n : Int) - (i : Int) < 6) := by omega
        clear hi a a1 hh b hk hp
        go_wp2_with fail
        go_loop [7] (fun v => ∃ k : Nat, 2 ≤ k ∧ k ≤ 6 ∧ v = .int .i64 k) (fun v => 6 - (intOf v).toNat)
        case atStart => exact ⟨2, by omega, by omega, rfl⟩
        case round =>
          obtain ⟨j, hj1, hj2, rfl⟩ := hrel
          by_cases hj6 : j < 6
          · have cj := Row.cell Hrow.out (i := i + j) (by omega)
            have hx := HH.out j hj1 hj6
            obtain ⟨h, hh⟩ : ∃ h, h = f (i + j) := ⟨_, rfl⟩
            rw [← hh] at cj hx
            have HX : Hid (IsHex h) := hx
            clear hh hx
            go_wp2_with fail
            refine (c36t HX.out).mono ?_
            rintro e' w1 ⟨rfl, rfl⟩
            go_wp2_with fail
            go_round
            case rel => exact ⟨j + 1, by omega, by omega, by go_num⟩
            case measure => simp [intOf]; omega
          · obtain rfl : j = 6 := by omega
            go_wp2_with fail
            go_round
            case rel => exact ⟨k + 1, i + 6, by go_num, hlt, HB.out⟩
            case measure => simp [intOf]; omega

set_option maxRecDepth 100000 in
/-- 'zzValueEnd' there -/
theorem c13g (hm : n = bnd uf m + 1) (hn : n ≤ 1048576) (hg : Good f uf m) (hu : ∀ k, k < m → uf k < 65536) (ht : Row w tb n (fun i => .int .u8 (f i : Int))) :
    Calls Try.prog 13 #[.slice (some ⟨tb, 0, none⟩) n cap, .int .i64 0] w fun e w' => e = .returned (.int .i64 (n : Int)) ∧ w' = w := by
  refine calls_hide fun R' hR => ?_
  have Hrow : Hid (Row w tb n (fun i => .int .u8 (f i : Int))) := ht
  have ck := ht.cell (i := 0) (by omega)
  rw [hg.first] at ck
  have HG : Hid (Good f uf m) := hg
  have HU : Hid (∀ k, k < m → uf k < 65536) := hu
  have HM : Hid (n = bnd uf m + 1) := hm
  have n1 : 1 ≤ n := by omega
  clear ht hg hu hm
  go_enter Try.func13, Try.ntmps13
  go_wp2_with fail
  refine (c25g HM.out hn HG.out HU.out Hrow.out).mono ?_
  rintro e w1 ⟨rfl, rfl⟩
  go_wp2_with fail
  exact hR.out _ _ ⟨rfl, rfl⟩
end
end Go.Proofs.Qxb6601492a.SJ
