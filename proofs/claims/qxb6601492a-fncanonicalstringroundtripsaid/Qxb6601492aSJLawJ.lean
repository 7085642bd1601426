import Derived.Test.Qxb6601492aSJVal
import Derived.Test.Qxb6601492aSJNest
namespace Go.Proofs.Qxb6601492a.SJ
open Go.RowKit

section
variable {ta : Option Addr} {n cap : Nat} {w : World}
theorem c8 (x : Value) (hs : n ≤ 9223372036854775807) :
    Calls Try.prog 8 #[.slice ta n cap, x] w fun e w' => (∃ b : Bool, e = .returned (.bool b)) ∧ w' = w := by
  refine calls_hide fun R' hR => ?_
  by_cases h1 : 1048576 < n
  · go_enter Try.func8, Try.ntmps8
    go_wp2
    exact hR.out _ _ ⟨⟨_, rfl⟩, rfl⟩
  go_enter Try.func8, Try.ntmps8
  go_wp2
  exact hR.out _ _ ⟨⟨_, rfl⟩, rfl⟩

/-- What 'zzSkipTarget' finds. -/
structure Target (f : Nat → Nat) (n p e : Nat) : Prop where
  lt : p < n
  v : Val f n p e
  fin : f p ≠ 34 → ¬ Open (f p) → e < n → Ends (f e)
set_option maxRecDepth 100000 in
set_option maxHeartbeats 1000000 in
/-- 'zzSkipTarget' -/
theorem c10 {f : Nat → Nat} (x : Int) (hx : -9223372036854775808 ≤ x ∧ x ≤ 9223372036854775807) (hn : n ≤ 1048576) (ht : Text w ta n f) :
    Calls Try.prog 10 #[.slice ta n cap, .int .i64 x] w fun e w' => (∃ r : Int, e = .returned (.int .i64 r) ∧ (r = -1 ∨ ∃ p e : Nat, x = p ∧ r = e ∧ Target f n p e)) ∧ ∃ q, w' = w.drewN q := by
  refine calls_hide fun R' hR => ?_
  by_cases h0 : x < 0
  · go_enter Try.func10, Try.ntmps10
    go_wp2_with fail
    exact hR.out _ _ ⟨⟨_, rfl, Or.inl rfl⟩, 0, rfl⟩
  have g0 : decide (x < 0) = false := decide_eq_false h0
  by_cases h1 : (n : Int) ≤ x
  · go_enter Try.func10, Try.ntmps10
    go_wp2_with fail
    exact hR.out _ _ ⟨⟨_, rfl, Or.inl rfl⟩, 0, rfl⟩
  obtain ⟨p, rfl⟩ : ∃ p : Nat, x = p := ⟨x.toNat, by omega⟩
  have hp : p < n := by omega
  have HT : Hid (Text w ta n f) := ht
  obtain ⟨tb, rfl, hrow⟩ := ht.row (by omega)
  have Hrow : Hid (Row w tb n (fun i => .int .u8 (f i : Int))) := hrow
  have cp := hrow.cell hp
  clear hrow ht
  go_enter Try.func10, Try.ntmps10
  go_wp2_with fail
  refine (c13 (by omega) hn HT.out).mono ?_
  rintro e w1 ⟨⟨r, rfl, hr⟩, q, rfl⟩
  rcases hr with rfl | ⟨e, rfl, hv⟩
  · go_wp2_with fail
    exact hR.out _ _ ⟨⟨_, rfl, Or.inl rfl⟩, q, rfl⟩
  have hpe := hv.lt
  have hen := hv.le
  have HV : Hid (Val f n p e) := hv
  clear hv
  have g1 : decide ((e : Int) < 0) = false := decide_eq_false (by omega)
  obtain ⟨c, hc⟩ : ∃ c, c = f p := ⟨_, rfl⟩
  rw [← hc] at cp
  by_cases h3 : c = 34 ∨ c = 123 ∨ c = 91
  · have HF : Hid (Target f n p e) := ⟨hp, HV.out, fun a b => by unfold Open at b; omega⟩
    clear hc
    rcases h3 with rfl | rfl | rfl
    all_goals
      go_wp2_with fail
      exact hR.out _ _ ⟨⟨_, rfl, Or.inr ⟨p, e, rfl, rfl, HF.out⟩⟩, q, rfl⟩
  · have d1 : ((c : Int) != 34) = true := by simp; omega
    have d2 : ((c : Int) != 123) = true := by simp; omega
    have d3 : ((c : Int) != 91) = true := by simp; omega
    clear h3 hc
    by_cases h4 : e < n
    · have ce := Row.cell Hrow.out h4
      obtain ⟨c', hc'⟩ : ∃ c, c = f e := ⟨_, rfl⟩
      rw [← hc'] at ce
      have Hc' : Hid (c' = f e) := hc'
      clear hc'
      go_wp2_with fail
      refine c23.mono ?_
      rintro e0 w1 ⟨⟨b, rfl, hb⟩, rfl⟩
      cases b with
      | true =>
        have HF : Hid (Target f n p e) := ⟨hp, HV.out, fun _ _ _ => by rw [← Hc'.out]; exact hb.1 rfl⟩
        clear hb
        go_wp2_with fail
        exact hR.out _ _ ⟨⟨_, rfl, Or.inr ⟨p, e, rfl, rfl, HF.out⟩⟩, q, rfl⟩
      | false =>
        clear hb
        go_wp2_with fail
        exact hR.out _ _ ⟨⟨_, rfl, Or.inl rfl⟩, q, rfl⟩
    · have HF : Hid (Target f n p e) := ⟨hp, HV.out, fun _ _ h => absurd h h4⟩
      go_wp2_with fail
      exact hR.out _ _ ⟨⟨_, rfl, Or.inr ⟨p, e, rfl, rfl, HF.out⟩⟩, q, rfl⟩
end

section
variable {wb tb n cap : Nat} {f : Nat → Nat} {w : World}
/-- 'skip' -/
theorem c24 {p e : Nat} (hn : n ≤ 1048576) (ht : Target f n p e) (hb : ∀ j, j < n → f j < 256) (h : Wk wb tb n cap f (p : Int) w) :
    Calls Try.prog 24 #[.pointer (some ⟨wb, 0, none⟩)] w fun x w' => x = .returned (.tuple #[]) ∧ Wk wb tb n cap f (e : Int) w' ∧ Below wb w w' := by
  have hpe := ht.v.lt
  have hen := ht.v.le
  by_cases h1 : f p = 34
  · refine (c24s (q := e - 1) hn ht.lt (by omega) h1 (ht.v.str h1) hb h).mono ?_
    rintro x w1 ⟨rfl, h2, h3⟩
    exact ⟨rfl, h2.cast (by omega), h3⟩
  · by_cases h2 : Open (f p)
    · exact c24n hn ht.lt hen (ht.v.nest h2) hb h
    · exact c24o hn ht.lt h1 h2 (Nat.le_of_lt hpe) hen (ht.v.solid h1 h2) (ht.fin h1 h2) h

/-- 'ZZSkip' -/
theorem c11 {p e : Nat} (hn : n ≤ 1048576) (ht : Target f n p e) (hb : ∀ j, j < n → f j < 256) (h : Row w tb n (fun i => .int .u8 (f i : Int))) :
    Calls Try.prog 11 #[.slice (some ⟨tb, 0, none⟩) n cap, .int .i64 p] w fun x w' => x = .returned (.int .i64 (e : Int)) ∧ Below w.heap.size w w' := by
  refine calls_hide fun R' hR => ?_
  have HW : Hid (Wk w.heap.size tb n cap f (p : Int) (w.alloc (.cells #[.slice (some ⟨tb, 0, none⟩) n cap, .int .i64 p] 37))) := wk_new (cap := cap) (x := (p : Int)) h
  have Ht : Hid (Target f n p e) := ht
  have Hb : Hid (∀ j, j < n → f j < 256) := hb
  clear h ht hb
  go_enter Try.func11, Try.ntmps11
  go_wp2_with fail
  refine (c24 hn Ht.out Hb.out HW.out).mono ?_
  rintro x w1 ⟨rfl, hw1, hb1⟩
  have c1 := hw1.c1
  have HB : Hid (Below w.heap.size w w1) := ((Below.refl w.heap.size w).alloc (Nat.le_refl _) (.cells #[.slice (some ⟨tb, 0, none⟩) n cap, .int .i64 p] 37)).trans hb1
  clear hw1 hb1 HW
  go_wp2
  exact hR.out _ _ ⟨rfl, HB.out⟩
end

set_option maxRecDepth 100000 in
/-- THE LAW 'FnSkipIsJSONValueEnd' -/
theorem walk3 {ta : Option Addr} {n cap : Nat} {tf : Nat → Int} {w : World} (x : Int) (hx : -9223372036854775808 ≤ x ∧ x ≤ 9223372036854775807) (ht : Ints .u8 w ta n tf) :
    Calls Try.prog 3 #[.slice ta n cap, .int .i64 x] w fun e w' => e = .returned (.bool true) ∧ Below w.heap.size w w' := by
  refine calls_hide fun R' hR => ?_
  have hbd := ht.bd
  have Ht : Hid (Ints .u8 w ta n tf) := ht
  clear ht
  go_enter Try.func3, Try.ntmps3
  go_wp2_with fail
  refine (c8 _ hbd).mono ?_
  rintro e w1 ⟨⟨b, rfl⟩, rfl⟩
  cases b with
  | false =>
    go_wp2_with fail
    exact hR.out _ _ ⟨rfl, Below.refl _ _⟩
  | true =>
  by_cases h1 : 65536 < n
  · go_wp2_with fail
    exact hR.out _ _ ⟨rfl, Below.refl _ _⟩
  go_wp2_with fail
  refine (c9 (by omega) Ht.out).mono ?_
  rintro e w2 ⟨⟨ta', cap', rfl, htx, _⟩, hB⟩
  have HB : Hid (Below w1.heap.size w1 w2) := hB
  have Htx : Hid (Text w2 ta' n (fun i => (tf i).toNat)) := htx
  clear hB htx
  go_wp2_with fail
  refine (c10 x hx (by omega) Htx.out).mono ?_
  rintro e w3 ⟨⟨r, rfl, hr⟩, q, rfl⟩
  rcases hr with rfl | ⟨p, e, rfl, rfl, htg⟩
  · go_wp2_with fail
    exact hR.out _ _ ⟨rfl, below_drewN HB.out _⟩
  · have hlt := htg.lt
    obtain ⟨tb, rfl, hrow⟩ := Htx.out.row (by omega)
    have Hrow : Hid (Row w2 tb n (fun i => .int .u8 (((tf i).toNat : Nat) : Int))) := hrow
    have Htg : Hid (Target (fun i => (tf i).toNat) n p e) := htg
    clear htg hrow
    have hd : decide ((e : Int) < 0) = false := decide_eq_false (by omega)
    go_wp2_with fail
    refine (c11 (by omega) Htg.out Htx.out.bd (Hrow.out.drewN _)).mono ?_
    rintro x w4 ⟨rfl, hb4⟩
    have HB4 : Hid (Below w1.heap.size w1 w4) := (below_drewN HB.out q).trans (hb4.mono (by have := HB.out.size; simpa using this))
    clear hb4
    go_wp2_with fail
    exact hR.out _ _ ⟨rfl, HB4.out⟩
end Go.Proofs.Qxb6601492a.SJ
