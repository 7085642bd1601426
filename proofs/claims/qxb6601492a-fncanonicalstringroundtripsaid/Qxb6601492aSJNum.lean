import Derived.Test.Qxb6601492aSJLit
import Derived.Deep.DeepCutAuto
namespace Go.Proofs.Qxb6601492a.SJ
open Go.RowKit

def NumCh (c : Nat) : Prop := c = 45 ∨ (48 ≤ c ∧ c ≤ 57) ∨ c = 46 ∨ c = 101 ∨ c = 69 ∨ c = 43
/-- The bytes from p to i may stand in a number. -/
structure Num (f : Nat → Nat) (n p i : Nat) : Prop where
  le : p ≤ i
  hi : i ≤ n
  all : ∀ j, p ≤ j → j < i → NumCh (f j)
theorem Num.one {f : Nat → Nat} {n p i : Nat} (h : Num f n p i) (hi : i < n) (hc : NumCh (f i)) : Num f n p (i + 1) :=
  ⟨by have := h.le; omega, by omega, fun j h1 h2 => by
    by_cases e : j = i
    · rw [e]; exact hc
    · exact h.all j h1 (by omega)⟩
theorem Num.solid {f : Nat → Nat} {n p i : Nat} (h : Num f n p i) : Solid f p i := fun j h1 h2 => by
  have := h.all j h1 h2
  unfold NumCh at this
  unfold Ends IsWS Open Shuts
  omega

section
variable {ta : Option Addr} {n cap : Nat} {f : Nat → Nat} {w : World}
set_option maxRecDepth 100000 in
set_option maxHeartbeats 2000000 in
/-- 'zzNumberEnd' -/
theorem c29 {p : Nat} (hp : p < n) (hn : n ≤ 1048576) (ht : Text w ta n f) :
    Calls Try.prog 29 #[.slice ta n cap, .int .i64 p] w fun e w' => (∃ r : Int, e = .returned (.int .i64 r) ∧ (r = -1 ∨ ∃ i : Nat, r = i ∧ p < i ∧ Num f n p i)) ∧ w' = w := by
  refine calls_hide fun R' hR => ?_
  have g0 : decide ((p : Int) < 0) = false := decide_eq_false (by omega)
  obtain ⟨tb, rfl, hrow⟩ := ht.row (by omega)
  have Hrow : Hid (Row w tb n (fun i => .int .u8 (f i : Int))) := hrow
  have cp := hrow.cell hp
  clear hrow ht
  go_enter Try.func29, Try.ntmps29
  go_upto_region 4 with (fail)
  go_cut [21] (fun s wc => wc = w ∧ ∃ b : Bool, s = .bool b ∧ (b = true → f p = 45))
  case first =>
    obtain ⟨c, hc⟩ : ∃ c, c = f p := ⟨_, rfl⟩
    rw [← hc] at cp
    have Hc : Hid (c = f p) := hc
    clear hc
    by_cases h : c = 45
    · subst h
      go_wp2_with fail
      go_meet
      case rel => exact ⟨rfl, true, rfl, fun _ => Hc.out.symm⟩
    · have d : ((c : Int) == 45) = false := by simp; omega
      go_wp2_with fail
      go_meet
      case rel => exact ⟨rfl, false, rfl, fun h => by simp at h⟩
  case rest =>
    obtain ⟨rfl, b, rfl, hb⟩ := hcut
    have HB : Hid (b = true → f p = 45) := hb
    clear hb
    go_upto_if 21 with (fail)
    go_cut [5] (fun s w' => w' = wc ∧ ∃ i : Nat, s = .int .i64 i ∧ Num f n p i ∧ i ≤ p + 1)
    case first =>
      cases b with
      | true =>
        have H45 : Hid (f p = 45) := HB.out rfl
        go_wp2_with fail
        go_meet
        case rel => exact ⟨rfl, p + 1, by go_num, Num.one ⟨Nat.le_refl _, by omega, fun j h1 h2 => by omega⟩ hp (Or.inl H45.out), Nat.le_refl _⟩
      | false =>
        go_wp2_with fail
        go_meet
        case rel => exact ⟨rfl, p, rfl, ⟨Nat.le_refl _, by omega, fun j h1 h2 => by omega⟩, by omega⟩
    case rest =>
      obtain ⟨rfl, i, rfl, hnum, hip⟩ := hcut
      have HN : Hid (Num f n p i) := hnum
      have hin := hnum.hi
      have hpi := hnum.le
      clear hnum HB g0
      have g0 : decide ((i : Int) < 0) = false := decide_eq_false (by omega)
      by_cases hlt : i < n
      · have ci := Row.cell Hrow.out hlt
        obtain ⟨c, hc⟩ : ∃ c, c = f i := ⟨_, rfl⟩
        rw [← hc] at ci
        have Hc : Hid (c = f i) := hc
        clear hc
        go_upto_if 32 with (fail)
        go_cut [5] (fun s w' => w' = wc ∧ ∃ i : Nat, s = .int .i64 i ∧ p < i ∧ Num f n p i)
        case first =>
          by_cases h0 : c = 48
          · subst h0
            go_wp2_with fail
            go_meet
            case rel => exact ⟨rfl, i + 1, by go_num, by omega, HN.out.one hlt (Or.inr (Or.inl (by rw [← Hc.out]; omega)))⟩
          · have d0 : ((c : Int) == 48) = false := by simp; omega
            by_cases h1 : 49 ≤ c
            · by_cases h2 : c ≤ 57
              · have d2 : decide ((c : Int) ≤ 57) = true := decide_eq_true (by omega)
                go_wp2_with fail
                go_loop [5] (fun v => ∃ j : Nat, v = .int .i64 j ∧ i ≤ j ∧ Num f n p j) (fun v => n - (intOf v).toNat)
                case atStart => exact ⟨i, by go_num, Nat.le_refl _, HN.out⟩
                case round =>
                  obtain ⟨j, rfl, hij, hj⟩ := hrel
                  have HJ : Hid (Num f n p j) := hj
                  have hjn := hj.hi
                  clear hj
                  have gj : decide ((j : Int) < 0) = false := decide_eq_false (by omega)
                  by_cases hjl : j < n
                  · have cj := Row.cell Hrow.out hjl
                    obtain ⟨c', hc'⟩ : ∃ c, c = f j := ⟨_, rfl⟩
                    rw [← hc'] at cj
                    have Hc' : Hid (c' = f j) := hc'
                    clear hc'
                    go_wp2_with fail
                    refine c37.mono ?_
                    rintro e w1 ⟨⟨b', rfl, hb⟩, rfl⟩
                    cases b' with
                    | true =>
                      have HB : Hid (IsDigit c') := hb.1 rfl
                      clear hb
                      go_wp2_with fail
                      go_round
                      case rel =>
                        have h1 := HB.out
                        rw [Hc'.out] at h1
                        exact ⟨j + 1, by go_num, by omega, HJ.out.one hjl (Or.inr (Or.inl h1))⟩
                      case measure => simp [intOf]; omega
                    | false =>
                      have HB : Hid (¬ IsDigit c') := fun h => by simpa using hb.2 h
                      clear hb
                      go_wp2_with fail
                      go_meet
                      case rel =>
                        refine ⟨rfl, j, rfl, ?_, HJ.out⟩
                        by_cases e : j = i
                        · exfalso
                          have h1 := HB.out
                          rw [Hc'.out, e, ← Hc.out] at h1
                          exact h1 ⟨by omega, by omega⟩
                        · omega
                  · go_wp2_with fail
                    go_meet
                    case rel => exact ⟨rfl, j, rfl, by omega, HJ.out⟩
              · go_wp2_with fail
                exact hR.out _ _ ⟨⟨_, rfl, Or.inl rfl⟩, rfl⟩
            · go_wp2_with fail
              exact hR.out _ _ ⟨⟨_, rfl, Or.inl rfl⟩, rfl⟩
        case rest =>
          clear Hc ci c
          obtain ⟨rfl, i, rfl, hpi, hnum⟩ := hcut
          have HN : Hid (Num f n p i) := hnum
          have hin := hnum.hi
          clear hnum g0
          have g0 : decide ((i : Int) < 0) = false := decide_eq_false (by omega)
          go_upto_region 14 with (fail)
          go_cut [70] (fun s w' => w' = wc ∧ ∃ b : Bool, s = .bool b ∧ (b = true → i < n ∧ (f i = 46)))
          case first =>
            by_cases hlt : i < n
            · have ci := Row.cell Hrow.out hlt
              obtain ⟨c, hc⟩ : ∃ c, c = f i := ⟨_, rfl⟩
              rw [← hc] at ci
              have Hc : Hid (c = f i) := hc
              clear hc
              by_cases h0 : c = 46
              · subst h0
                go_wp2_with fail
                go_meet
                case rel => exact ⟨rfl, true, rfl, fun _ => ⟨hlt, Hc.out.symm⟩⟩
              have d0 : ((c : Int) == 46) = false := by simp; omega
              go_wp2_with fail
              go_meet
              case rel => exact ⟨rfl, false, rfl, fun h => by simp at h⟩
            · go_wp2_with fail
              go_meet
              case rel => exact ⟨rfl, false, rfl, fun h => by simp at h⟩
          case rest =>
            obtain ⟨rfl, b, rfl, hb⟩ := hcut
            have HB : Hid (b = true → i < n ∧ (f i = 46)) := hb
            clear hb
            go_upto_if 70 with (fail)
            go_cut [5] (fun s w' => w' = wc ∧ ∃ i : Nat, s = .int .i64 i ∧ p < i ∧ Num f n p i)
            case first =>
              cases b with
              | true =>
                obtain ⟨hlt, hch⟩ := HB.out rfl
                have HN1 : Hid (Num f n p (i + 1)) := HN.out.one hlt (by unfold NumCh; omega)
                clear hch HB
                go_wp2_with fail
                go_loop [5] (fun v => ∃ j : Nat, v = .int .i64 j ∧ i + 1 ≤ j ∧ Num f n p j) (fun v => n - (intOf v).toNat)
                case atStart => exact ⟨i + 1, by go_num, Nat.le_refl _, HN1.out⟩
                case round =>
                  obtain ⟨j, rfl, hij, hj⟩ := hrel
                  have HJ : Hid (Num f n p j) := hj
                  have hjn := hj.hi
                  clear hj
                  have gj : decide ((j : Int) < 0) = false := decide_eq_false (by omega)
                  by_cases hjl : j < n
                  · have cj := Row.cell Hrow.out hjl
                    obtain ⟨c', hc'⟩ : ∃ c, c = f j := ⟨_, rfl⟩
                    rw [← hc'] at cj
                    have Hc' : Hid (c' = f j) := hc'
                    clear hc'
                    go_wp2_with fail
                    refine c37.mono ?_
                    rintro e w1 ⟨⟨b', rfl, hb⟩, rfl⟩
                    cases b' with
                    | true =>
                      have HB : Hid (IsDigit c') := hb.1 rfl
                      clear hb
                      go_wp2_with fail
                      go_round
                      case rel =>
                        have h1 := HB.out
                        rw [Hc'.out] at h1
                        exact ⟨j + 1, by go_num, by omega, HJ.out.one hjl (Or.inr (Or.inl h1))⟩
                      case measure => simp [intOf]; omega
                    | false =>
                      have HB : Hid (¬ IsDigit c') := fun h => by simpa using hb.2 h
                      clear hb
                      by_cases e : j = i + 1
                      · subst e
                        go_wp2_with fail
                        exact hR.out _ _ ⟨⟨_, rfl, Or.inl rfl⟩, rfl⟩
                      · have d1 : ((j : Int) == (i : Int) + 1) = false := by simp; omega
                        go_wp2_with fail
                        go_meet
                        case rel => exact ⟨rfl, j, rfl, by omega, HJ.out⟩
                  · by_cases e : j = i + 1
                    · subst e
                      go_wp2_with fail
                      exact hR.out _ _ ⟨⟨_, rfl, Or.inl rfl⟩, rfl⟩
                    · have d1 : ((j : Int) == (i : Int) + 1) = false := by simp; omega
                      go_wp2_with fail
                      go_meet
                      case rel => exact ⟨rfl, j, rfl, by omega, HJ.out⟩
              | false =>
                go_wp2_with fail
                go_meet
                case rel => exact ⟨rfl, i, rfl, hpi, HN.out⟩
            case rest =>
              obtain ⟨rfl, i, rfl, hpi, hnum⟩ := hcut
              have HN : Hid (Num f n p i) := hnum
              have hin := hnum.hi
              clear hnum g0
              have g0 : decide ((i : Int) < 0) = false := decide_eq_false (by omega)
              go_upto_region 21 with (fail)
              go_cut [107] (fun s w' => w' = wc ∧ ∃ b : Bool, s = .bool b ∧ (b = true → i < n ∧ (f i = 101 ∨ f i = 69)))
              case first =>
                by_cases hlt : i < n
                · have ci := Row.cell Hrow.out hlt
                  obtain ⟨c, hc⟩ : ∃ c, c = f i := ⟨_, rfl⟩
                  rw [← hc] at ci
                  have Hc : Hid (c = f i) := hc
                  clear hc
                  by_cases h0 : c = 101
                  · subst h0
                    go_wp2_with fail
                    go_meet
                    case rel => exact ⟨rfl, true, rfl, fun _ => ⟨hlt, Or.inl Hc.out.symm⟩⟩
                  by_cases h1 : c = 69
                  · subst h1
                    go_wp2_with fail
                    go_meet
                    case rel => exact ⟨rfl, true, rfl, fun _ => ⟨hlt, Or.inr Hc.out.symm⟩⟩
                  have d0 : ((c : Int) == 101) = false := by simp; omega
                  have d1 : ((c : Int) == 69) = false := by simp; omega
                  go_wp2_with fail
                  go_meet
                  case rel => exact ⟨rfl, false, rfl, fun h => by simp at h⟩
                · go_wp2_with fail
                  go_meet
                  case rel => exact ⟨rfl, false, rfl, fun h => by simp at h⟩
              case rest =>
                obtain ⟨rfl, b, rfl, hb⟩ := hcut
                have HB : Hid (b = true → i < n ∧ (f i = 101 ∨ f i = 69)) := hb
                clear hb
                cases b with
                | true =>
                  obtain ⟨hlt, hch⟩ := HB.out rfl
                  have HN1 : Hid (Num f n p (i + 1)) := HN.out.one hlt (by unfold NumCh; omega)
                  clear hch HB HN
                  go_upto_region 23 with (fail)
                  have e1 : ((i : Int) + 1) = ((i + 1 : Nat) : Int) := by omega
                  rw [e1]
                  have hlt1 : i + 1 ≤ n := hlt
                  have hpi1 : p < i + 1 := by omega
                  obtain ⟨k, hk⟩ : ∃ k, k = i + 1 := ⟨_, rfl⟩
                  rw [← hk] at hlt1 hpi1 HN1 e1 ⊢
                  clear hk
                  revert hlt1 hpi1 HN1
                  clear e1 hlt hpi hin g0 hip
                  intro HN hpi hin
                  have g0 : decide ((k : Int) < 0) = false := decide_eq_false (by omega)
                  go_upto_region 23 with (fail)
                  go_cut [127] (fun s w' => w' = wc ∧ ∃ b : Bool, s = .bool b ∧ (b = true → k < n ∧ (f k = 43 ∨ f k = 45)))
                  case first =>
                    by_cases hlt : k < n
                    · have ci := Row.cell Hrow.out hlt
                      obtain ⟨c, hc⟩ : ∃ c, c = f k := ⟨_, rfl⟩
                      rw [← hc] at ci
                      have Hc : Hid (c = f k) := hc
                      clear hc
                      by_cases h0 : c = 43
                      · subst h0
                        go_wp2_with fail
                        go_meet
                        case rel => exact ⟨rfl, true, rfl, fun _ => ⟨hlt, Or.inl Hc.out.symm⟩⟩
                      by_cases h1 : c = 45
                      · subst h1
                        go_wp2_with fail
                        go_meet
                        case rel => exact ⟨rfl, true, rfl, fun _ => ⟨hlt, Or.inr Hc.out.symm⟩⟩
                      have d0 : ((c : Int) == 43) = false := by simp; omega
                      have d1 : ((c : Int) == 45) = false := by simp; omega
                      go_wp2_with fail
                      go_meet
                      case rel => exact ⟨rfl, false, rfl, fun h => by simp at h⟩
                    · go_wp2_with fail
                      go_meet
                      case rel => exact ⟨rfl, false, rfl, fun h => by simp at h⟩
                  case rest =>
                    obtain ⟨rfl, b, rfl, hb⟩ := hcut
                    have HB : Hid (b = true → k < n ∧ (f k = 43 ∨ f k = 45)) := hb
                    clear hb
                    go_upto_if 127 with (fail)
                    go_cut [5] (fun s w' => w' = wc ∧ ∃ k : Nat, s = .int .i64 k ∧ p < k ∧ Num f n p k)
                    case first =>
                      cases b with
                      | true =>
                        obtain ⟨hlt, hch⟩ := HB.out rfl
                        have H45 : Hid (f k = 43 ∨ f k = 45) := hch
                        clear hch
                        go_wp2_with fail
                        go_meet
                        case rel => exact ⟨rfl, k + 1, by go_num, by omega, HN.out.one hlt (by have := H45.out; unfold NumCh; omega)⟩
                      | false =>
                        go_wp2_with fail
                        go_meet
                        case rel => exact ⟨rfl, k, rfl, hpi, HN.out⟩
                    case rest =>
                      obtain ⟨rfl, k, rfl, hpi, hnum⟩ := hcut
                      have HN : Hid (Num f n p k) := hnum
                      have hin := hnum.hi
                      clear hnum g0
                      have g0 : decide ((k : Int) < 0) = false := decide_eq_false (by omega)
                      go_wp2_with fail
                      go_loop [5] (fun v => ∃ j : Nat, v = .int .i64 j ∧ k ≤ j ∧ Num f n p j) (fun v => n - (intOf v).toNat)
                      case atStart => exact ⟨k, by go_num, Nat.le_refl _, HN.out⟩
                      case round =>
                        obtain ⟨j, rfl, hij, hj⟩ := hrel
                        have HJ : Hid (Num f n p j) := hj
                        have hjn := hj.hi
                        clear hj
                        have gj : decide ((j : Int) < 0) = false := decide_eq_false (by omega)
                        by_cases hjl : j < n
                        · have cj := Row.cell Hrow.out hjl
                          obtain ⟨c', hc'⟩ : ∃ c, c = f j := ⟨_, rfl⟩
                          rw [← hc'] at cj
                          have Hc' : Hid (c' = f j) := hc'
                          clear hc'
                          go_wp2_with fail
                          refine c37.mono ?_
                          rintro e w1 ⟨⟨b', rfl, hb⟩, rfl⟩
                          cases b' with
                          | true =>
                            have HB : Hid (IsDigit c') := hb.1 rfl
                            clear hb
                            go_wp2_with fail
                            go_round
                            case rel =>
                              have h1 := HB.out
                              rw [Hc'.out] at h1
                              exact ⟨j + 1, by go_num, by omega, HJ.out.one hjl (Or.inr (Or.inl h1))⟩
                            case measure => simp [intOf]; omega
                          | false =>
                            have HB : Hid (¬ IsDigit c') := fun h => by simpa using hb.2 h
                            clear hb
                            by_cases e : j = k
                            · subst e
                              go_wp2_with fail
                              exact hR.out _ _ ⟨⟨_, rfl, Or.inl rfl⟩, rfl⟩
                            · have d1 : ((j : Int) == (k : Int)) = false := by simp; omega
                              go_wp2_with fail
                              exact hR.out _ _ ⟨⟨_, rfl, Or.inr ⟨j, rfl, by omega, HJ.out⟩⟩, rfl⟩
                        · by_cases e : j = k
                          · subst e
                            go_wp2_with fail
                            exact hR.out _ _ ⟨⟨_, rfl, Or.inl rfl⟩, rfl⟩
                          · have d1 : ((j : Int) == (k : Int)) = false := by simp; omega
                            go_wp2_with fail
                            exact hR.out _ _ ⟨⟨_, rfl, Or.inr ⟨j, rfl, by omega, HJ.out⟩⟩, rfl⟩
                | false =>
                  go_wp2_with fail
                  exact hR.out _ _ ⟨⟨_, rfl, Or.inr ⟨i, rfl, hpi, HN.out⟩⟩, rfl⟩
      · go_wp2_with fail
        exact hR.out _ _ ⟨⟨_, rfl, Or.inl rfl⟩, rfl⟩
end
end Go.Proofs.Qxb6601492a.SJ
