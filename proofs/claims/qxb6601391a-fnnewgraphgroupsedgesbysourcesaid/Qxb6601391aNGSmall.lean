import Derived.Test.Qxb6601391aNGMem
namespace Go.Proofs.Qxb6601391a.NG
open Go.RowKit
section
variable {ao : Option Addr} {len cap : Nat} {A : Nat → Option Addr} {L C : Nat → Nat} {S T : Nat → Nat → Int} {w : World}

/-- 'zzBytes ..': it answers; it writes nothing. -/
theorem c8 (x n c : Int) (hlen : len ≤ 9223372036854775807) (h : Blocks w ao len A L C S T) :
    Calls Try.prog 8 #[.int .i64 x, .int .i64 n, .slice ao len cap, .int .i64 c] w fun e w' => (∃ b : Bool, e = .returned (.bool b) ∧ (b = true → len ≤ 1048576)) ∧ w' = w := by
  refine calls_hide fun R' hR => ?_
  by_cases hl : 1048576 < len
  · go_enter Try.func8, Try.ntmps8
    go_wp2
    exact hR.out _ _ ⟨⟨false, rfl, by simp⟩, rfl⟩
  go_enter Try.func8, Try.ntmps8
  go_wp2
  go_loop [9, 10] (fun n i => ∃ k : Nat, ∃ t : Int, k ≤ len ∧ i = .int .i64 k ∧ n = .int .i64 t ∧ 0 ≤ t ∧ t ≤ 1048576) (fun _ i => len - (intOf i).toNat)
  case atStart => exact ⟨0, len, Nat.zero_le _, rfl, rfl, by omega, by omega⟩
  case round =>
    obtain ⟨k, t, hk, rfl, rfl, ht0, ht⟩ := hrel
    by_cases hlt : k < len
    · obtain ⟨b, o, rfl, hck⟩ := h.top k hlt
      have hLk := h.bL k hlt
      go_wp2
      · exact hR.out _ _ ⟨⟨false, rfl, by simp⟩, rfl⟩
      · exact hR.out _ _ ⟨⟨false, rfl, by simp⟩, rfl⟩
      · go_round
        case rel => exact ⟨k + 1, t + L k, by omega, by go_num, rfl, by omega, by omega⟩
        case measure => simp [intOf]; omega
    · go_wp2
      exact hR.out _ _ ⟨⟨true, rfl, by omega⟩, rfl⟩

/-- 'edgeListBytes': where it answers at most 1 << 20 it has counted all. -/
theorem c9 (hlen : len ≤ 131072) (h : Blocks w ao len A L C S T) :
    Calls Try.prog 9 #[.slice ao len cap] w fun e w' => (∃ n : Int, e = .returned (.int .i64 n) ∧ (n ≤ 1048576 → 8 * len + 8 * tot L len ≤ 1048576)) ∧ w' = w := by
  refine calls_hide fun R' hR => ?_
  go_enter Try.func9, Try.ntmps9
  go_wp2
  go_loop [3, 4] (fun n i => ∃ k : Nat, k ≤ len ∧ i = .int .i64 k ∧ n = .int .i64 (8 * len + 8 * tot L k) ∧ (8 * len + 8 * tot L k ≤ 1048576 ∨ k = 0)) (fun _ i => len - (intOf i).toNat)
  case atStart => exact ⟨0, Nat.zero_le _, rfl, by simp [tot], by simp⟩
  case round =>
    obtain ⟨k, hk, rfl, rfl, ht⟩ := hrel
    have ht' : 8 * len + 8 * tot L k ≤ 1048576 := by
      rcases ht with ht | ht
      · exact ht
      · rw [ht, tot]; omega
    by_cases hlt : k < len
    · obtain ⟨b, o, rfl, hck⟩ := h.top k hlt
      have hLk := h.bL k hlt
      have hm := tot_lt L hlt
      clear ht
      go_wp2
      · exact hR.out _ _ ⟨⟨_, rfl, by omega⟩, rfl⟩
      · exact hR.out _ _ ⟨⟨_, rfl, by omega⟩, rfl⟩
      · go_round
        case rel => exact ⟨k + 1, by omega, by go_num, by rw [tot]; go_num, by rw [tot]; omega⟩
        case measure => simp [intOf]; omega
    · go_wp2
      exact hR.out _ _ ⟨⟨_, rfl, by rw [show len = k by omega]; omega⟩, rfl⟩

/-- 'newGraphInDomain': where it says yes: the number of vertices, every source, the number of edges. -/
theorem c10 (n c : Int) (hlen : len ≤ 131072) (htot : tot L len ≤ 131072) (h : Blocks w ao len A L C S T) :
    Calls Try.prog 10 #[.int .i64 n, .slice ao len cap, .int .i64 c] w fun e w' => (∃ b : Bool, e = .returned (.bool b) ∧ (b = true → 0 ≤ n ∧ n ≤ 65536 ∧ (∀ i, i < len → ∀ j, j < L i → 0 ≤ S i j ∧ S i j < n) ∧ c = tot L len)) ∧ w' = w := by
  refine calls_hide fun R' hR => ?_
  by_cases hn0 : n < 0
  · go_enter Try.func10, Try.ntmps10
    go_wp2
    exact hR.out _ _ ⟨⟨false, rfl, by simp⟩, rfl⟩
  by_cases hn1 : 65536 < n
  · go_enter Try.func10, Try.ntmps10
    go_wp2
    exact hR.out _ _ ⟨⟨false, rfl, by simp⟩, rfl⟩
  go_enter Try.func10, Try.ntmps10
  go_wp2
  go_loop [7, 8] (fun t i => ∃ k : Nat, k ≤ len ∧ i = .int .i64 k ∧ t = .int .i64 (tot L k) ∧ (∀ i, i < k → ∀ j, j < L i → 0 ≤ S i j ∧ S i j < n)) (fun _ i => len - (intOf i).toNat)
  case atStart => exact ⟨0, Nat.zero_le _, rfl, by simp [tot], by intro i hi; omega⟩
  case round =>
    obtain ⟨k, hk, rfl, rfl, hall⟩ := hrel
    have Hall := show Hid _ from hall
    clear hall
    by_cases hlt : k < len
    · obtain ⟨b, o, rfl, hck⟩ := h.top k hlt
      have hLk := h.bL k hlt
      have hm := tot_lt L hlt
      go_wp2
      go_loop [7, 9] (fun t i => ∃ q : Nat, q ≤ L k ∧ i = .int .i64 q ∧ t = .int .i64 (tot L k + q) ∧ (∀ j, j < q → 0 ≤ S k j ∧ S k j < n)) (fun _ i => L k - (intOf i).toNat)
      case atStart => exact ⟨0, Nat.zero_le _, rfl, by simp, by intro i hi; omega⟩
      case round =>
        obtain ⟨q, hq, rfl, rfl, hin⟩ := hrel
        have Hin := show Hid _ from hin
        clear hin
        by_cases hqt : q < L k
        · obtain ⟨b', o', hA, h1, h2⟩ := h.cells k hlt q hqt
          have hS := h.bS k hlt q hqt
          by_cases hs0 : S k q < 0
          · go_wp2
            exact hR.out _ _ ⟨⟨false, rfl, by simp⟩, rfl⟩
          by_cases hs1 : S k q < n
          · go_wp2
            go_round
            case rel =>
              refine ⟨q + 1, by omega, by go_num, by go_num, ?_⟩
              intro j hj
              by_cases e : j = q
              · subst e; omega
              · exact Hin.out j (by omega)
            case measure => simp [intOf]; omega
          · go_wp2
            exact hR.out _ _ ⟨⟨false, rfl, by simp⟩, rfl⟩
        · go_wp2
          go_round
          case rel =>
            refine ⟨k + 1, by omega, by go_num, by rw [tot]; go_num, ?_⟩
            intro i hi j hj
            by_cases e : i = k
            · subst e; exact Hin.out j (by omega)
            · exact Hall.out i (by omega) j hj
          case measure => simp [intOf]; omega
    · go_wp2
      refine hR.out _ _ ⟨⟨_, rfl, ?_⟩, rfl⟩
      intro hb
      obtain rfl : k = len := by omega
      exact ⟨by omega, by omega, Hall.out, by simpa using hb⟩

/-- 'newGraphCostOK' answers. -/
theorem c11 (n c : Int) (hlen : len ≤ 131072) (hc0 : 0 ≤ c) (hc : c ≤ 131072) :
    Calls Try.prog 11 #[.int .i64 n, .slice ao len cap, .int .i64 c] w fun e w' => (∃ b : Bool, e = .returned (.bool b)) ∧ w' = w := by
  refine calls_hide fun R' hR => ?_
  by_cases h0 : (len : Int) + c ≤ 0
  · go_enter Try.func11, Try.ntmps11
    go_wp2
    exact hR.out _ _ ⟨⟨_, rfl⟩, rfl⟩
  · go_enter Try.func11, Try.ntmps11
    go_wp2
    exact hR.out _ _ ⟨⟨_, rfl⟩, rfl⟩

end
end Go.Proofs.Qxb6601391a.NG
