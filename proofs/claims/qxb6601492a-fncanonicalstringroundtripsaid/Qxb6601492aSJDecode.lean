import Derived.Test.Qxb6601492aSJUnit
namespace Go.Proofs.Qxb6601492a.SJ
open Go.RowKit

theorem c18 {ta : Option Addr} {n cap : Nat} {w : World} (x : Value) (hs : n ≤ 9223372036854775807) :
    Calls Try.prog 18 #[.slice ta n cap, x] w fun e w' => (∃ b : Bool, e = .returned (.bool b)) ∧ w' = w := by
  refine calls_hide fun R' hR => ?_
  by_cases h1 : 1048576 < n
  · go_enter Try.func18, Try.ntmps18
    go_wp2
    exact hR.out _ _ ⟨⟨_, rfl⟩, rfl⟩
  go_enter Try.func18, Try.ntmps18
  go_wp2
  exact hR.out _ _ ⟨⟨_, rfl⟩, rfl⟩

theorem c19 {base n : Nat} {v : Value} {xs : List Value} {u : Nat} {w : World} (hu : u < 65536) (hn : n ≤ 16777216) (hbase : base ≤ w.heap.size) (hown : w.ownsRow base 5 1 v n xs) :
    Calls Try.prog 19 #[v, .int .u16 u] w fun e w' => ∃ p g cap, Piece u p ∧ e = .returned (.slice (some ⟨g, 0, none⟩) (n + p.length) cap) ∧ Added base n v xs p w g cap w' := by
  refine calls_hide fun R' hR => ?_
  have HO : Hid _ := hown
  clear hown
  go_enter Try.func19, Try.ntmps19
  go_wp2_with fail
  refine (c32 hu hn hbase HO.out).mono ?_
  rintro e w1 ⟨p, g, cap, hp, rfl, ha⟩
  have HP : Hid _ := hp
  have HA : Hid _ := ha
  clear hp ha
  go_wp2
  exact hR.out _ _ ⟨p, g, cap, HP.out, rfl, HA.out⟩

/-- The value of the first digits. -/
def vk (u : Nat) : Nat → Nat
  | 2 => 0
  | 3 => u / 4096
  | 4 => u / 256
  | 5 => u / 16
  | _ => u
theorem vk_step {u k : Nat} (hu : u < 65536) (h1 : 2 ≤ k) (h2 : k < 6) : ∃ d, d < 16 ∧ (six u).getD k 0 = hx d ∧ vk u k * 16 + d = vk u (k + 1) ∧ vk u k ≤ 4096 := by
  obtain rfl | rfl | rfl | rfl : k = 2 ∨ k = 3 ∨ k = 4 ∨ k = 5 := by omega
  · exact ⟨u / 4096, by omega, rfl, by show 0 * 16 + u / 4096 = u / 4096; omega, Nat.zero_le _⟩
  · exact ⟨u / 256 % 16, by omega, rfl, by show u / 4096 * 16 + u / 256 % 16 = u / 256; omega, by show u / 4096 ≤ 4096; omega⟩
  · exact ⟨u / 16 % 16, by omega, rfl, by show u / 256 * 16 + u / 16 % 16 = u / 16; omega, by show u / 256 ≤ 4096; omega⟩
  · exact ⟨u % 16, by omega, rfl, by show u / 16 * 16 + u % 16 = u; omega, by show u / 16 ≤ 4096; omega⟩

set_option maxRecDepth 100000 in
/-- 'zzDecodePiece' at a unit as 'appendUnit' writes it. -/
theorem c20 {u i n tb cap : Nat} {p : List Nat} {f : Nat → Nat} {w : World} (hu : u < 65536) (hp : Piece u p) (hn : n ≤ 16777216) (hin : i + p.length ≤ n) (hf : ∀ j, j < p.length → f (i + j) = p.getD j 0) (ht : Row w tb n (fun i => .int .u8 (f i : Int))) :
    Calls Try.prog 20 #[.slice (some ⟨tb, 0, none⟩) n cap, .int .i64 i] w fun e w' => e = .returned (.tuple #[.int .u16 u, .int .i64 ((i : Int) + p.length), .bool true]) ∧ w' = w := by
  refine calls_hide fun R' hR => ?_
  rcases hp with ⟨hp, rfl⟩ | ⟨hp, rfl⟩
  · have hl : ([u] : List Nat).length = 1 := rfl
    rw [hl] at hin
    have c0 := ht.cell (i := i) (by omega)
    have e0 : f i = u := by have := hf 0 (by simp); simpa using this
    rw [e0] at c0
    have HP : Hid _ := hp
    obtain ⟨h1, h2, h3, h4⟩ := hp
    have hd0 : decide ((i : Int) < 0) = false := decide_eq_false (by omega)
    have hd : ((u : Int) != 92) = true := by simp; omega
    clear hf ht e0
    go_enter Try.func20, Try.ntmps20
    go_wp2_with fail
    refine (c33 hu).mono ?_
    rintro e w1 ⟨⟨b, rfl, hb⟩, rfl⟩
    obtain rfl : b = true := hb.2 HP.out
    clear hb
    go_wp2_with fail
    go_ret3
    exact hR.out _ _ ⟨rfl, rfl⟩
  · have hl : (six u).length = 6 := rfl
    rw [hl] at hin
    have c0 : w.cell? ⟨tb, i, none⟩ = some (.int .u8 92) := by
      have e0 : f i = 92 := hf 0 (by rw [hl]; omega)
      have := ht.cell (i := i) (by omega)
      rw [e0] at this
      exact this
    have c1 : w.cell? ⟨tb, i + 1, none⟩ = some (.int .u8 117) := by
      have e0 : f (i + 1) = 117 := hf 1 (by rw [hl]; omega)
      have := ht.cell (i := i + 1) (by omega)
      rw [e0] at this
      exact this
    have HP : Hid _ := hp
    have HT : Hid (∀ k, 2 ≤ k → k < 6 → ∃ d, d < 16 ∧ w.cell? ⟨tb, i + k, none⟩ = some (.int .u8 (hx d : Nat)) ∧ vk u k * 16 + d = vk u (k + 1) ∧ vk u k ≤ 4096) := by
      intro k h1 h2
      obtain ⟨d, q1, q2, q3, q4⟩ := vk_step hu h1 h2
      refine ⟨d, q1, ?_, q3, q4⟩
      rw [← q2, ← hf k (by rw [hl]; omega)]
      exact ht.cell (i := i + k) (by omega)
    clear hf ht hp
    have hd0 : decide ((i : Int) < 0) = false := decide_eq_false (by omega)
    go_enter Try.func20, Try.ntmps20
    go_wp2_with fail
    go_loop [8, 9] (fun v k => ∃ k0 : Nat, 2 ≤ k0 ∧ k0 ≤ 6 ∧ v = .int .i64 (vk u k0 : Nat) ∧ k = .int .i64 k0) (fun _ k => 6 - (intOf k).toNat)
    case atStart => exact ⟨2, by omega, by omega, rfl, rfl⟩
    case round =>
      obtain ⟨k, hk1, hk2, rfl, rfl⟩ := hrel
      by_cases hlt : k < 6
      · obtain ⟨d, q1, q2, q3, q4⟩ := HT.out k hk1 hlt
        obtain ⟨a, ha⟩ : ∃ a, a = vk u k := ⟨_, rfl⟩
        rw [← ha] at q3 q4 ⊢
        go_wp2_with fail
        refine (c34 q1).mono ?_
        rintro e w1 ⟨rfl, rfl⟩
        have hd1 : decide ((d : Int) < 0) = false := decide_eq_false (by omega)
        go_wp2_with fail
        go_round
        case rel => exact ⟨k + 1, by omega, by omega, by rw [← q3]; go_num, by go_num⟩
        case measure => simp [intOf]; omega
      · obtain rfl : k = 6 := by omega
        have hv : vk u 6 = u := rfl
        rw [hv]
        go_wp2_with fail
        refine (c33 hu).mono ?_
        rintro e w1 ⟨⟨b, rfl, hb⟩, rfl⟩
        obtain rfl : b = false := by
          cases b with
          | false => rfl
          | true => exact absurd (hb.1 rfl) HP.out
        clear hb
        go_wp2_with fail
        go_ret3
        exact hR.out _ _ ⟨rfl, rfl⟩
end Go.Proofs.Qxb6601492a.SJ
