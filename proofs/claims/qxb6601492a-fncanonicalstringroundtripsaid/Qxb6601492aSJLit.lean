import Derived.Test.Qxb6601492aSJStr
namespace Go.Proofs.Qxb6601492a.SJ
open Go.RowKit

/-- The bytes of a string. -/
def byt (s : ByteArray) (i : Nat) : Nat := if h : i < s.size then (s[i]'h).toNat else 0
theorem byt_ix {s : ByteArray} {k : Nat} (hk : k < s.size) : ∀ h, (s[k]'h).toNat = byt s k := by
  intro h
  unfold byt
  rw [dif_pos hk]

section
variable {ta : Option Addr} {n cap : Nat} {f : Nat → Nat} {w : World}
set_option maxRecDepth 100000 in
set_option maxHeartbeats 1000000 in
/-- 'zzLiteralEnd' -/
theorem c28 {p : Nat} {s : ByteArray} (hs : s.size ≤ 8) (hp : p < n) (hn : n ≤ 1048576) (ht : Text w ta n f) :
    Calls Try.prog 28 #[.slice ta n cap, .int .i64 p, .string s] w fun e w' => (∃ r : Int, e = .returned (.int .i64 r) ∧ (r = -1 ∨ (r = (p : Int) + s.size ∧ p + s.size ≤ n ∧ ∀ k, k < s.size → f (p + k) = byt s k))) ∧ ∃ q, w' = w.drewN q := by
  refine calls_hide fun R' hR => ?_
  have g0 : decide ((p : Int) < 0) = false := decide_eq_false (by omega)
  obtain ⟨tb, rfl, hrow⟩ := ht.row (by omega)
  have Hrow : Hid (Row w tb n (fun i => .int .u8 (f i : Int))) := hrow
  clear hrow ht
  by_cases h1 : n < p + s.size
  · have q1 : (n : Int) - (p : Int) < (s.size : Int) := by omega
    go_enter Try.func28, Try.ntmps28
    go_wp2_with fail
    exact hR.out _ _ ⟨⟨_, rfl, Or.inl rfl⟩, 0, rfl⟩
  · have q1 : ¬ ((n : Int) - (p : Int) < (s.size : Int)) := by omega
    go_enter Try.func28, Try.ntmps28
    go_wp2_with fail
    clear q1 g0
    go_loopw [7] (fun v wr => ∃ k q : Nat, k ≤ s.size ∧ v = .int .i64 k ∧ wr = w.drewN q ∧ ∀ j, j < k → f (p + j) = byt s j) (fun v _ => s.size - (intOf v).toNat)
    case atStart => exact ⟨0, 0, Nat.zero_le _, rfl, rfl, fun j hj => by omega⟩
    case round =>
      obtain ⟨k, q, hk, rfl, rfl, hall⟩ := hrel
      have HA : Hid (∀ j, j < k → f (p + j) = byt s j) := hall
      clear hall
      by_cases hlt : k < s.size
      · have ck := Row.cell Hrow.out (i := p + k) (by omega)
        have hix := byt_ix hlt
        obtain ⟨a, ha⟩ : ∃ a, a = f (p + k) := ⟨_, rfl⟩
        obtain ⟨b, hb⟩ : ∃ b, b = byt s k := ⟨_, rfl⟩
        rw [← ha] at ck
        rw [← hb] at hix
        have q2 : (p : Int) + (k : Int) < (n : Int) := by omega
        have q3 : (k : Int) < (s.size : Int) := by omega
        by_cases hab : a = b
        · have HX : Hid (∀ j, j < k + 1 → f (p + j) = byt s j) := by
            intro j hj
            by_cases e : j = k
            · rw [e, ← ha, ← hb]; exact hab
            · exact HA.out j (by omega)
          clear ha hb
          subst hab
          go_wp2_with fail
          go_quiet (fail)
          go_wp2_with fail
          go_roundw
          case rel => exact ⟨k + 1, q + nq, by omega, by go_num, by simp, HX.out⟩
          case measure => simp [intOf]; omega
        · have d1 : ((a : Int) != (b : Int)) = true := by simp; omega
          have d2 : (a != b) = true := by simp; omega
          clear ha hb
          go_wp2_with fail
          go_quiet (fail)
          go_wp2_with fail
          exact hR.out _ _ ⟨⟨_, rfl, Or.inl rfl⟩, q + nq, by simp⟩
      · obtain rfl : k = s.size := by omega
        go_wp2_with fail
        exact hR.out _ _ ⟨⟨_, rfl, Or.inr ⟨rfl, by omega, HA.out⟩⟩, q, rfl⟩
end
end Go.Proofs.Qxb6601492a.SJ
