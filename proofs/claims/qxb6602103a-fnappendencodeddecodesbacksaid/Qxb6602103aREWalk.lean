import Derived.Test.Qxb6602103aREApp
import Derived.Test.Qxb6602103aREPlain
import Derived.Laws.BitsAllLaws
import Derived.Laws.BytesString
import Derived.Deep.RegionHeld3
namespace Go.Proofs.Qxb6602103a.RE
open Go.RowKit
theorem info5 : (Try.prog.info? 5).map (fun i => (i.zero, i.size, i.bytes)) = some (some (.int .u8 0), 1, 1) := by kernel_rfl
def bval (c : Nat) : Value := .int .u8 (c : Int)

theorem c22 {s : ByteArray} {w : World} (hs : s.size ≤ 9223372036854775807) :
    Calls Try.prog 22 #[.string s] w fun e w' => (∃ b : Bool, e = .returned (.bool b)) ∧ w' = w := by
  refine calls_hide fun R' hR => ?_
  by_cases h1 : 1048576 < s.size
  · go_enter Try.func22, Try.ntmps22
    go_wp2
    exact hR.out _ _ ⟨⟨_, rfl⟩, rfl⟩
  go_enter Try.func22, Try.ntmps22
  go_wp2
  exact hR.out _ _ ⟨⟨_, rfl⟩, rfl⟩

/-- 'zzHexVal' at an upper-case digit. -/
theorem c36 {d : Nat} {w : World} (hd : d < 16) : Calls Try.prog 36 #[.int .u8 (hX d : Nat)] w fun e w' => e = .returned (.tuple #[.int .u8 d, .bool true]) ∧ w' = w := by
  refine calls_hide fun R' hR => ?_
  by_cases h : d < 10
  · rw [show hX d = 48 + d by unfold hX; rw [if_pos h]]
    have q1 : (48 : Int) ≤ 48 + (d : Int) := by omega
    have q2 : 48 + (d : Int) ≤ 57 := by omega
    go_enter Try.func36, Try.ntmps36
    go_wp2
    have e : 48 + (d : Int) - 48 = d := by omega
    refine hR.out _ _ ⟨?_, rfl⟩
    rw [e]
    rfl
  · rw [show hX d = 55 + d by unfold hX; rw [if_neg h]]
    have q1 : ¬ (55 + (d : Int) ≤ 57) := by omega
    have q2 : (65 : Int) ≤ 55 + (d : Int) := by omega
    have q3 : 55 + (d : Int) ≤ 70 := by omega
    go_enter Try.func36, Try.ntmps36
    go_wp2
    have e : 55 + (d : Int) - 65 + 10 = d := by omega
    refine hR.out _ _ ⟨?_, rfl⟩
    rw [e]

theorem alpha_ix (d : Nat) (hd : d < 66) : ∀ h, (({ data := (65 :: 66 :: 67 :: 68 :: 69 :: 70 :: 71 :: 72 :: 73 :: 74 :: 75 :: 76 :: 77 :: 78 :: 79 :: 80 :: 81 :: 82 :: 83 :: 84 :: 85 :: 86 :: 87 :: 88 :: 89 :: 90 :: 97 :: 98 :: 99 :: 100 :: 101 :: 102 :: 103 :: 104 :: 105 :: 106 :: 107 :: 108 :: 109 :: 110 :: 111 :: 112 :: 113 :: 114 :: 115 :: 116 :: 117 :: 118 :: 119 :: 120 :: 121 :: 122 :: 48 :: 49 :: 50 :: 51 :: 52 :: 53 :: 54 :: 55 :: 56 :: 57 :: 45 :: 46 :: 95 :: 126 :: []).toArray } : ByteArray)[d]'h).toNat = alpha.getD d 0 := by
  have key : ∀ d : Fin 66, (({ data := (65 :: 66 :: 67 :: 68 :: 69 :: 70 :: 71 :: 72 :: 73 :: 74 :: 75 :: 76 :: 77 :: 78 :: 79 :: 80 :: 81 :: 82 :: 83 :: 84 :: 85 :: 86 :: 87 :: 88 :: 89 :: 90 :: 97 :: 98 :: 99 :: 100 :: 101 :: 102 :: 103 :: 104 :: 105 :: 106 :: 107 :: 108 :: 109 :: 110 :: 111 :: 112 :: 113 :: 114 :: 115 :: 116 :: 117 :: 118 :: 119 :: 120 :: 121 :: 122 :: 48 :: 49 :: 50 :: 51 :: 52 :: 53 :: 54 :: 55 :: 56 :: 57 :: 45 :: 46 :: 95 :: 126 :: []).toArray } : ByteArray)[d.val]'(d.isLt)).toNat = alpha.getD d.val 0 := by decide +kernel
  exact fun _ => key ⟨d, hd⟩

theorem c37 {c : Nat} {w : World} (hc : c < 256) : Calls Try.prog 37 #[.int .u8 c] w fun e w' => e = .returned (.bool (unresB c)) ∧ w' = w := by
  refine calls_hide fun R' hR => ?_
  go_enter Try.func37, Try.ntmps37
  go_wp2
  go_loop [3] (fun i => ∃ k : Nat, k ≤ 66 ∧ i = .int .i64 k ∧ ∀ j, j < k → alpha.getD j 0 ≠ c) (fun i => 66 - (intOf i).toNat)
  case atStart => exact ⟨0, by omega, rfl, fun j hj => by omega⟩
  case round =>
    obtain ⟨k, hk, rfl, hall⟩ := hrel
    by_cases hlt : k < 66
    · have hix := alpha_ix k hlt
      obtain ⟨a, ha⟩ : ∃ a, a = alpha.getD k 0 := ⟨_, rfl⟩
      have hau := (alpha_unres ⟨k, hlt⟩)
      rw [show alpha.getD (⟨k, hlt⟩ : Fin 66).val 0 = a from ha.symm] at hau
      rw [← ha] at hix
      by_cases e : a = c
      · have hd : ((a : Int) == (c : Int)) = true := by simp; omega
        have hd2 : (a == c) = true := by simp; omega
        have HU : Hid (unresB c = true) := by rw [← e]; exact hau.1
        clear ha hau hall
        go_wp2
        refine hR.out _ _ ⟨?_, rfl⟩
        rw [HU.out]
      · have hd : ((a : Int) == (c : Int)) = false := by simp; omega
        have hd2 : (a == c) = false := by simp; omega
        have HA : Hid (∀ j, j < k + 1 → alpha.getD j 0 ≠ c) := by
          intro j hj
          by_cases ej : j = k
          · rw [ej, ← ha]; exact e
          · exact hall j (by omega)
        clear ha hau hall
        go_wp2
        go_round
        case rel => exact ⟨k + 1, by omega, by go_num, HA.out⟩
        case measure => simp [intOf]; omega
    · obtain rfl : k = 66 := by omega
      have HU : Hid (unresB c = false) := by
        cases h : unresB c with
        | false => rfl
        | true =>
          obtain ⟨j, hj⟩ := alpha_all ⟨c, hc⟩ h
          exact absurd hj (hall j.val j.isLt)
      clear hall
      go_wp2
      refine hR.out _ _ ⟨?_, rfl⟩
      rw [HU.out]
end Go.Proofs.Qxb6602103a.RE
