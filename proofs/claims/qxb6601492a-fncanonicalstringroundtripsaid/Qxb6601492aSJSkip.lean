import Derived.Test.Qxb6601492aSJMem
import Derived.Test.Qxb6601492aSJPlain
namespace Go.Proofs.Qxb6601492a.SJ
open Go.RowKit
theorem info5 : (Try.prog.info? 5).map (fun i => (i.zero, i.size, i.bytes)) = some (some (.int .u8 0), 1, 1) := by kernel_rfl

section
variable {ta : Option Addr} {n cap : Nat} {w : World}

theorem c16 (x : Value) (hs : n ≤ 9223372036854775807) :
    Calls Try.prog 16 #[.slice ta n cap, x] w fun e w' => (∃ b : Bool, e = .returned (.bool b)) ∧ w' = w := by
  refine calls_hide fun R' hR => ?_
  by_cases h1 : 1048576 < n
  · go_enter Try.func16, Try.ntmps16
    go_wp2
    exact hR.out _ _ ⟨⟨_, rfl⟩, rfl⟩
  go_enter Try.func16, Try.ntmps16
  go_wp2
  exact hR.out _ _ ⟨⟨_, rfl⟩, rfl⟩

/-- 'zzCloneBytes' -/
theorem c9 {tf : Nat → Int} (htl : n ≤ 1048576) (ht : Ints .u8 w ta n tf) :
    Calls Try.prog 9 #[.slice ta n cap] w fun e w' => (∃ ta' cap', e = .returned (.slice ta' n cap') ∧ Text w' ta' n (fun i => (tf i).toNat) ∧ (ta' = none ∧ n = 0 ∧ cap' = 0 ∨ ta' = some ⟨w.heap.size, 0, none⟩ ∧ cap' = n)) ∧ Below w.heap.size w w' := by
  refine calls_hide fun R' hR => ?_
  have hmk := run_make_row' (P := Try.prog) 22 5 (.int .u8 0) 1 Try.underlying22 info5 rfl .i64 .i64 n (by omega) (by omega)
  have q22 : ∀ (w : World) (a : Option Addr) (n c n' c' : Nat), (binOp .eql 22 (.slice a n c) (.slice none n' c')).run Try.prog w = .ok (.bool a.isNone) w := fun w a n c n' c' => Lib.run_eql_slice_nil w _ _ a n c n' c' Try.underlying22
  cases ta with
  | none =>
    obtain rfl := ht.nil rfl
    go_enter Try.func9, Try.ntmps9
    go_wp2
    exact hR.out _ _ ⟨⟨none, 0, rfl, ⟨fun h => by omega, fun i hi => by omega⟩, by simp⟩, Below.refl _ _⟩
  | some ad =>
  have Hs : Hid _ := ht
  clear ht
  go_enter Try.func9, Try.ntmps9
  go_wp2
  go_loopw [4] (fun i wr => ∃ k : Nat, k ≤ n ∧ i = .int .i64 k ∧ Below w.heap.size w wr ∧ ∃ f, Row wr w.heap.size n f ∧ ∀ i, i < k → f i = .int .u8 (tf i)) (fun i _ => n - (intOf i).toNat)
  case atStart => exact ⟨0, Nat.zero_le _, rfl, (Below.refl _ _).alloc (Nat.le_refl _) _, _, Row.made _ _ _ _, fun i hi => by omega⟩
  case round =>
    obtain ⟨k, hk, rfl, hB, f, hf, hfk⟩ := hrel
    clear hmk q22
    by_cases hlt : k < n
    · obtain ⟨tb, to', e, ck⟩ := Hs.out.cell k hlt
      obtain rfl := Option.some.inj e
      have ck' := (hB.cell (lt_of_cell ck)).trans ck
      have d1 := hf.cell hlt
      have d2 := hf.frozen k
      have HR : Hid (Below w.heap.size w (wr.setCell ⟨w.heap.size, k, none⟩ (.int .u8 (tf k))) ∧ ∃ f, Row (wr.setCell ⟨w.heap.size, k, none⟩ (.int .u8 (tf k))) w.heap.size n f ∧ ∀ i, i < k + 1 → f i = .int .u8 (tf i)) := by
        refine ⟨hB.setCell (Nat.le_refl _) _, _, hf.set k _, fun i hi => ?_⟩
        by_cases e : i = k
        · rw [if_pos e, e]
        · rw [if_neg e]; exact hfk i (by omega)
      clear hB hf hfk ck
      go_wp2
      go_roundw
      case rel => exact ⟨k + 1, by omega, by go_num, HR.out⟩
      case measure => simp [intOf]; omega
    · have HR : Hid _ := And.intro hB (hf.congr (g := fun i => .int .u8 ((tf i).toNat : Int)) (fun i hi => by
        rw [hfk i (by omega)]
        have := wf8 (Hs.out.wf i hi)
        rw [Int.toNat_of_nonneg this.1]))
      clear hB hf hfk
      go_wp2
      refine hR.out _ _ ⟨⟨_, _, rfl, ⟨fun _ => ⟨_, rfl, HR.out.2⟩, fun i hi => ?_⟩, Or.inr ⟨rfl, rfl⟩⟩, HR.out.1⟩
      have := wf8 (Hs.out.wf i hi)
      show (tf i).toNat < 256
      omega

/-- 'zzClosingQuote' -/
theorem c17 {f : Nat → Nat} (x : Int) (hx : -9223372036854775808 ≤ x ∧ x ≤ 9223372036854775807) (hn : n ≤ 1048576) (ht : Text w ta n f) :
    Calls Try.prog 17 #[.slice ta n cap, .int .i64 x] w fun e w' => (∃ r : Int, e = .returned (.int .i64 r) ∧ (r = -1 ∨ ∃ i q : Nat, x + 1 = i ∧ r = q ∧ cq f (n - i) i 0 = some q)) ∧ w' = w := by
  refine calls_hide fun R' hR => ?_
  by_cases h1 : x < -1
  · go_enter Try.func17, Try.ntmps17
    go_wp2
    exact hR.out _ _ ⟨⟨_, rfl, Or.inl rfl⟩, rfl⟩
  by_cases h2 : (n : Int) ≤ x
  · go_enter Try.func17, Try.ntmps17
    go_wp2
    exact hR.out _ _ ⟨⟨_, rfl, Or.inl rfl⟩, rfl⟩
  obtain ⟨i0, hi0⟩ : ∃ i0 : Nat, x + 1 = i0 := ⟨(x + 1).toNat, by omega⟩
  obtain rfl : x = (i0 : Int) - 1 := by omega
  have Ht : Hid _ := ht
  clear ht hi0
  go_enter Try.func17, Try.ntmps17
  go_wp2
  go_loop [5, 6] (fun r i => ∃ run j : Nat, r = .int .i64 run ∧ i = .int .i64 j ∧ j ≤ n ∧ run ≤ j ∧ cq f (n - j) j run = cq f (n - i0) i0 0) (fun _ i => n - (intOf i).toNat)
  case atStart => exact ⟨0, i0, rfl, by go_num, by omega, by omega, rfl⟩
  case round =>
    obtain ⟨run, j, rfl, rfl, hj, hrun, hcq⟩ := hrel
    by_cases hlt : j < n
    · obtain ⟨b, rfl, ck⟩ := Ht.out.cell hlt
      have hbd := Ht.out.bd j hlt
      obtain ⟨c, hc⟩ : ∃ c, c = f j := ⟨_, rfl⟩
      rw [← hc] at ck hbd
      rw [show n - j = (n - (j + 1)) + 1 by omega, cq, ← hc] at hcq
      by_cases h3 : c = 34
      · subst h3
        by_cases h4 : run % 2 = 0
        · rw [if_pos ⟨rfl, h4⟩] at hcq
          have Hcq : Hid _ := hcq
          have hd : (Int.tmod (run : Int) 2 == 0) = true := by
            rw [Int.tmod_eq_emod_of_nonneg (by omega)]
            simp; omega
          clear hcq hc
          go_wp2
          exact hR.out _ _ ⟨⟨_, rfl, Or.inr ⟨i0, j, by omega, rfl, Hcq.out.symm⟩⟩, rfl⟩
        · rw [if_neg (fun h => h4 h.2), if_neg (by omega)] at hcq
          have Hcq : Hid _ := hcq
          have hd : (Int.tmod (run : Int) 2 == 0) = false := by
            rw [Int.tmod_eq_emod_of_nonneg (by omega)]
            simp; omega
          clear hcq hc
          go_wp2
          go_round
          case rel => exact ⟨0, j + 1, rfl, by go_num, by omega, by omega, Hcq.out⟩
          case measure => simp [intOf]; omega
      · rw [if_neg (fun h => h3 h.1)] at hcq
        have hd : ((c : Int) == 34) = false := by simp; omega
        by_cases h4 : c = 92
        · rw [if_pos h4] at hcq
          have Hcq : Hid _ := hcq
          have hd2 : ((c : Int) == 92) = true := by simp; omega
          clear hcq hc h4
          go_wp2
          go_round
          case rel => exact ⟨run + 1, j + 1, by go_num, by go_num, by omega, by omega, Hcq.out⟩
          case measure => simp [intOf]; omega
        · rw [if_neg h4] at hcq
          have Hcq : Hid _ := hcq
          have hd2 : ((c : Int) == 92) = false := by simp; omega
          clear hcq hc h4
          go_wp2
          go_round
          case rel => exact ⟨0, j + 1, rfl, by go_num, by omega, by omega, Hcq.out⟩
          case measure => simp [intOf]; omega
    · clear hcq
      go_wp2
      exact hR.out _ _ ⟨⟨_, rfl, Or.inl rfl⟩, rfl⟩
end

/-- A walk in its block: the text and the place. -/
def wcells (tb n cap : Nat) (x : Int) : Nat → Value := fun j => if j = 0 then .slice (some ⟨tb, 0, none⟩) n cap else .int .i64 x
structure Wk (wb tb n cap : Nat) (f : Nat → Nat) (x : Int) (w : World) : Prop where
  r : Row w wb 2 (wcells tb n cap x)
  t : Row w tb n (fun i => .int .u8 (f i : Int))
  lt : tb < wb
namespace Wk
variable {wb tb n cap : Nat} {f : Nat → Nat} {x : Int} {w : World}
theorem c0 (h : Wk wb tb n cap f x w) : w.cell? ⟨wb, 0, none⟩ = some (.slice (some ⟨tb, 0, none⟩) n cap) := h.r.cell (i := 0) (by omega)
theorem c1 (h : Wk wb tb n cap f x w) : w.cell? ⟨wb, 1, none⟩ = some (.int .i64 x) := h.r.cell (i := 1) (by omega)
theorem f1 (h : Wk wb tb n cap f x w) : w.frozen? ⟨wb, 1, none⟩ = false := h.r.frozen 1
theorem set (h : Wk wb tb n cap f x w) (y : Int) : Wk wb tb n cap f y (w.setCell ⟨wb, 1, none⟩ (.int .i64 y)) :=
  ⟨(h.r.set 1 _).congr (fun i hi => by
    match i, hi with
    | 0, _ => rfl
    | 1, _ => rfl), h.t.setOther (by have := h.lt; show tb ≠ wb; omega) _, h.lt⟩
theorem cast {y : Int} (h : Wk wb tb n cap f x w) (e : x = y) : Wk wb tb n cap f y w := e ▸ h
theorem drewN (h : Wk wb tb n cap f x w) (k : Nat) : Wk wb tb n cap f x (w.drewN k) := ⟨h.r.drewN k, h.t.drewN k, h.lt⟩
end Wk
theorem below_at {wb : Nat} {w0 w : World} (hb : Below wb w0 w) (y : Value) : Below wb w0 (w.setCell ⟨wb, 1, none⟩ y) := hb.setCell (show wb ≤ wb from Nat.le_refl wb) _

section
variable {wb tb n cap : Nat} {f : Nat → Nat} {w : World}

theorem c31 {d i q : Nat} (x : Int) (hx : x + 1 = i) (hn : n ≤ 1048576) (hq : q < n) (hs : scan f d i = some q) (hb : ∀ j, j < n → f j < 256) (h : Wk wb tb n cap f x w) :
    Calls Try.prog 31 #[.pointer (some ⟨wb, 0, none⟩)] w fun e w' => e = .returned (.tuple #[]) ∧ Wk wb tb n cap f ((q : Int) + 1) w' ∧ Below wb w w' := by
  refine calls_hide fun R' hR => ?_
  obtain rfl : x = (i : Int) - 1 := by omega
  have hiq := scan_le hs
  have d1 := h.c1
  have d2 := h.f1
  have HW : Hid (Wk wb tb n cap f (i : Int) (w.setCell ⟨wb, 1, none⟩ (.int .i64 (i : Int))) ∧ Below wb w (w.setCell ⟨wb, 1, none⟩ (.int .i64 (i : Int)))) := ⟨h.set _, below_at (Below.refl _ _) _⟩
  have Hb : Hid _ := hb
  have Hs : Hid _ := hs
  clear h hb hs hx
  go_enter Try.func31, Try.ntmps31
  go_wp2
  clear d1 d2
  go_loopg [] d (fun k wr => ∃ j : Nat, scan f k j = some q ∧ Wk wb tb n cap f (j : Int) wr ∧ Below wb w wr)
  case atStart => exact ⟨i, Hs.out, HW.out.1, HW.out.2⟩
  case round =>
    clear HW
    obtain ⟨j, hsc, hwk, hB⟩ := hrel
    have hjq := scan_le hsc
    have e0 := hwk.c0
    have e1 := hwk.c1
    have e2 := hwk.f1
    have e3 := hwk.t.cell (i := j) (by omega)
    have hbd := Hb.out j (by omega)
    have q1 : (j : Int) < (n : Int) := by omega
    obtain ⟨c, hc⟩ : ∃ c, c = f j := ⟨_, rfl⟩
    rw [← hc] at e3 hbd
    obtain ⟨k, hk⟩ : ∃ k, gk = k + 1 := by
      cases gk with
      | zero => simp [scan] at hsc
      | succ k => exact ⟨k, rfl⟩
    rw [hk, scan, ← hc] at hsc
    by_cases h1 : c = 34
    · rw [if_pos h1] at hsc
      obtain rfl : j = q := Option.some.inj hsc
      have hd : ((c : Int) != 34) = false := by simp; omega
      have HR : Hid _ := And.intro hwk hB
      clear hwk hB hsc hc h1
      go_wp2
      go_quiet (fail)
      go_wp2
      go_end0
      exact hR.out _ _ ⟨rfl, (HR.out.1.drewN _).set _, below_at (below_drewN HR.out.2 _) _⟩
    · rw [if_neg h1] at hsc
      have hd : ((c : Int) != 34) = true := by simp; omega
      by_cases h2 : c = 92
      · rw [if_pos h2] at hsc
        have hd2 : ((c : Int) == 92) = true := by simp; omega
        have hj2 := scan_le hsc
        have HR : Hid _ := And.intro hwk hB
        have Hsc : Hid _ := hsc
        clear hwk hB hsc hc h1 h2
        go_wp2
        go_quiet (fail)
        go_wp2
        go_quiet (fail)
        go_wp2
        go_roundg k
        case rel => exact ⟨j + 2, Hsc.out, (((HR.out.1.drewN _).set _).set _).cast (by omega), below_at (below_at (below_drewN HR.out.2 _) _) _⟩
        case measure => omega
      · rw [if_neg h2] at hsc
        have hd2 : ((c : Int) == 92) = false := by simp; omega
        have HR : Hid _ := And.intro hwk hB
        have Hsc : Hid _ := hsc
        clear hwk hB hsc hc h1 h2
        go_wp2
        go_quiet (fail)
        go_wp2
        go_quiet (fail)
        go_wp2
        go_roundg k
        case rel => exact ⟨j + 1, Hsc.out, ((HR.out.1.drewN _).set _).cast (by omega), below_at (below_drewN HR.out.2 _) _⟩
        case measure => omega

/-- The walk that 'ZZSkip' and 'ZZSkipString' make. -/
theorem wk_new {x : Int} (h : Row w tb n (fun i => .int .u8 (f i : Int))) : Wk w.heap.size tb n cap f x (w.alloc (.cells #[.slice (some ⟨tb, 0, none⟩) n cap, .int .i64 x] 37)) :=
  ⟨Row.lits w _ 37 2 _ (by simp) (fun i hi => by
    match i, hi with
    | 0, _ => rfl
    | 1, _ => rfl), h.alloc _, h.lt⟩

theorem c15 {d i q : Nat} (x : Int) (hx : x + 1 = i) (hn : n ≤ 1048576) (hq : q < n) (hs : scan f d i = some q) (hb : ∀ j, j < n → f j < 256) (h : Row w tb n (fun i => .int .u8 (f i : Int))) :
    Calls Try.prog 15 #[.slice (some ⟨tb, 0, none⟩) n cap, .int .i64 x] w fun e w' => e = .returned (.int .i64 ((q : Int) + 1)) ∧ Below w.heap.size w w' := by
  refine calls_hide fun R' hR => ?_
  have HW : Hid _ := wk_new (cap := cap) (x := x) h
  have Hs : Hid _ := hs
  have Hb : Hid _ := hb
  clear h hs hb
  go_enter Try.func15, Try.ntmps15
  go_wp2_with fail
  refine (c31 x hx hn hq Hs.out Hb.out HW.out).mono ?_
  rintro e w1 ⟨rfl, hw1, hb1⟩
  have c1 := hw1.c1
  have HB : Hid _ := ((Below.refl w.heap.size w).alloc (Nat.le_refl _) (.cells #[.slice (some ⟨tb, 0, none⟩) n cap, .int .i64 x] 37)).trans hb1
  clear hw1 hb1 HW
  go_wp2
  exact hR.out _ _ ⟨rfl, HB.out⟩
end

set_option maxRecDepth 100000 in
/-- THE LAW 'FnSkipStringFirstUnescapedQuote' -/
theorem walk5 {ta : Option Addr} {n cap : Nat} {tf : Nat → Int} {w : World} (x : Int) (hx : -9223372036854775808 ≤ x ∧ x ≤ 9223372036854775807) (ht : Ints .u8 w ta n tf) :
    Calls Try.prog 5 #[.slice ta n cap, .int .i64 x] w fun e w' => e = .returned (.bool true) ∧ Below w.heap.size w w' := by
  refine calls_hide fun R' hR => ?_
  have hbd := ht.bd
  have Ht : Hid _ := ht
  clear ht
  go_enter Try.func5, Try.ntmps5
  go_wp2_with fail
  refine (c16 _ hbd).mono ?_
  rintro e w1 ⟨⟨b, rfl⟩, rfl⟩
  cases b with
  | false =>
    go_wp2_with fail
    exact hR.out _ _ ⟨rfl, Below.refl _ _⟩
  | true =>
  by_cases h1 : 65536 < n
  · go_wp2_with fail
    exact hR.out _ _ ⟨rfl, Below.refl _ _⟩
  go_wp2_with fail
  refine (c9 (by omega) Ht.out).mono ?_
  rintro e w2 ⟨⟨ta', cap', rfl, htx, _⟩, hB⟩
  have HB : Hid _ := hB
  have Htx : Hid _ := htx
  clear hB htx
  go_wp2_with fail
  refine (c17 x hx (by omega) Htx.out).mono ?_
  rintro e w3 ⟨⟨r, rfl, hr⟩, rfl⟩
  rcases hr with rfl | ⟨i, q, hxi, rfl, hcq⟩
  · go_wp2_with fail
    exact hR.out _ _ ⟨rfl, HB.out⟩
  · have hlt := cq_lt hcq
    have hsc := scan_cq hcq
    rw [if_pos rfl] at hsc
    obtain ⟨tb, rfl, hrow⟩ := Htx.out.row (by omega)
    have Hrow : Hid _ := hrow
    have Hsc : Hid _ := hsc
    clear hcq hsc hrow
    have hd : decide ((q : Int) < 0) = false := decide_eq_false (by omega)
    go_wp2_with fail
    refine (c15 x hxi (by omega) (by omega) Hsc.out Htx.out.bd Hrow.out).mono ?_
    rintro e w4 ⟨rfl, hb4⟩
    have HB4 : Hid _ := HB.out.trans (hb4.mono HB.out.size)
    clear hb4
    go_wp2_with fail
    exact hR.out _ _ ⟨rfl, HB4.out⟩
end Go.Proofs.Qxb6601492a.SJ
