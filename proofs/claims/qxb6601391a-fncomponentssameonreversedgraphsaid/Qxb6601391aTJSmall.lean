import Derived.Test.Qxb6601391aTJVisit
import Derived.OpenShut
namespace Go.Proofs.Qxb6601391a.TJ
open Go.RowKit Go.Proofs.Qxb6601391a.NG

theorem info21 : (Try.prog.info? 21).map (fun i => (i.zero, i.size, i.bytes)) = some (some (.int .i32 0), 1, 4) := by kernel_rfl
/-- A SLICE OF INTEGERS THAT CAME IN. -/
structure Ints (k : IntKind) (w : World) (a : Option Addr) (len : Nat) (f : Nat → Int) : Prop where
  cell : ∀ i, i < len → ∃ b o, a = some ⟨b, o, none⟩ ∧ w.cell? ⟨b, o + i, none⟩ = some (.int k (f i))
  wf : ∀ i, i < len → (Lit.int k (f i)).wf = true
  nil : a = none → len = 0
  bd : len ≤ 9223372036854775807
theorem Ints.later {k : IntKind} {w w' : World} {a : Option Addr} {len : Nat} {f : Nat → Int} (h : Ints k w a len f) (hb : Below w.heap.size w w') : Ints k w' a len f :=
  ⟨fun i hi => by
    obtain ⟨b, o, e, hc⟩ := h.cell i hi
    exact ⟨b, o, e, (hb.cell (lt_of_cell hc)).trans hc⟩, h.wf, h.nil, h.bd⟩
theorem Ints.drewN {k : IntKind} {w : World} {a : Option Addr} {len : Nat} {f : Nat → Int} (h : Ints k w a len f) (n : Nat) : Ints k (w.drewN n) a len f := ⟨h.cell, h.wf, h.nil, h.bd⟩
theorem Ints.cellAt {k : IntKind} {w : World} {b o len : Nat} {f : Nat → Int} (h : Ints k w (some ⟨b, o, none⟩) len f) {i : Nat} (hi : i < len) : w.cell? ⟨b, o + i, none⟩ = some (.int k (f i)) := by
  obtain ⟨b2, o2, e, hc⟩ := h.cell i hi
  simp only [Option.some.injEq, Addr.mk.injEq, and_true] at e
  obtain ⟨rfl, rfl⟩ := e
  exact hc
theorem wf64 {n : Int} (h : (Lit.int .i64 n).wf = true) : -9223372036854775808 ≤ n ∧ n ≤ 9223372036854775807 := bounds_i64 h
theorem wf32 {n : Int} (h : (Lit.int .i32 n).wf = true) : -2147483648 ≤ n ∧ n ≤ 2147483647 := bounds_i32 h

section
variable {sa ta : Option Addr} {sl scap tl tcap : Nat} {sf tf : Nat → Int} {w : World}

theorem c14 (x : Int) (hs : sl ≤ 9223372036854775807) (ht : tl ≤ 9223372036854775807) :
    Calls Try.prog 14 #[.int .i64 x, .slice sa sl scap, .slice ta tl tcap] w fun e w' => (∃ b : Bool, e = .returned (.bool b)) ∧ w' = w := by
  refine calls_hide fun R' hR => ?_
  by_cases h1 : 1048576 < sl
  · go_enter Try.func14, Try.ntmps14
    go_wp2
    exact hR.out _ _ ⟨⟨_, rfl⟩, rfl⟩
  by_cases h2 : 1048576 < tl
  · go_enter Try.func14, Try.ntmps14
    go_wp2
    exact hR.out _ _ ⟨⟨_, rfl⟩, rfl⟩
  by_cases h3 : 1048576 < sl + tl
  · go_enter Try.func14, Try.ntmps14
    go_wp2
    exact hR.out _ _ ⟨⟨_, rfl⟩, rfl⟩
  go_enter Try.func14, Try.ntmps14
  go_wp2
  exact hR.out _ _ ⟨⟨_, rfl⟩, rfl⟩

theorem c20 (x : Int) (hs : sl ≤ 9223372036854775807) (ht : tl ≤ 9223372036854775807) :
    Calls Try.prog 20 #[.int .i64 x, .slice sa sl scap, .slice ta tl tcap] w fun e w' => (∃ b : Bool, e = .returned (.bool b)) ∧ w' = w := by
  refine calls_hide fun R' hR => ?_
  by_cases h1 : 1048576 < sl
  · go_enter Try.func20, Try.ntmps20
    go_wp2
    exact hR.out _ _ ⟨⟨_, rfl⟩, rfl⟩
  by_cases h2 : 1048576 < tl
  · go_enter Try.func20, Try.ntmps20
    go_wp2
    exact hR.out _ _ ⟨⟨_, rfl⟩, rfl⟩
  by_cases h3 : 1048576 < sl + tl
  · go_enter Try.func20, Try.ntmps20
    go_wp2
    exact hR.out _ _ ⟨⟨_, rfl⟩, rfl⟩
  go_enter Try.func20, Try.ntmps20
  go_wp2
  exact hR.out _ _ ⟨⟨_, rfl⟩, rfl⟩

/-- What 'csrInDomain' says of a graph. -/
structure Csr (sl tl : Nat) (sf tf : Nat → Int) : Prop where
  pos : 1 ≤ sl
  lo : 0 ≤ sf 0
  mono : ∀ v, v + 1 < sl → sf v ≤ sf (v + 1)
  hi : sf (sl - 1) ≤ tl
  edge : ∀ j : Nat, sf 0 ≤ j → (j : Int) < sf (sl - 1) → 0 ≤ tf j ∧ tf j < (sl : Int) - 1

theorem Csr.le {sl tl : Nat} {sf tf : Nat → Int} (h : Csr sl tl sf tf) {a b : Nat} (hab : a ≤ b) (hb : b < sl) : sf a ≤ sf b := by
  induction b with
  | zero => obtain rfl : a = 0 := by omega
            exact Int.le_refl _
  | succ b ih =>
    by_cases e : a = b + 1
    · rw [e]; exact Int.le_refl _
    · exact Int.le_trans (ih (by omega) (by omega)) (h.mono b hb)

set_option maxHeartbeats 400000 in
theorem c15 (hsl : sl ≤ 131072) (htl : tl ≤ 262144) (hs : Ints .i64 w sa sl sf) (ht : Ints .i32 w ta tl tf) :
    Calls Try.prog 15 #[.slice sa sl scap, .slice ta tl tcap] w fun e w' => (∃ b : Bool, e = .returned (.bool b) ∧ (b = true → Csr sl tl sf tf)) ∧ ∃ k, w' = w.drewN k := by
  refine calls_hide fun R' hR => ?_
  by_cases h0 : sl < 1
  · go_enter Try.func15, Try.ntmps15
    go_wp2
    exact hR.out _ _ ⟨⟨false, rfl, by simp⟩, 0, rfl⟩
  obtain ⟨n, rfl⟩ : ∃ n, sl = n + 1 := ⟨sl - 1, by omega⟩
  obtain ⟨sb, so, rfl, c0⟩ := hs.cell 0 (by omega)
  have cn := hs.cellAt (i := n) (by omega)
  have b0 := wf64 (hs.wf 0 (by omega))
  have bn := wf64 (hs.wf n (by omega))
  simp only [Nat.add_zero] at c0
  by_cases h1 : sf 0 < 0
  · go_enter Try.func15, Try.ntmps15
    go_wp2
    exact hR.out _ _ ⟨⟨false, rfl, by simp⟩, 0, rfl⟩
  have Hs : Hid _ := hs
  have Ht : Hid _ := ht
  clear hs ht
  go_enter Try.func15, Try.ntmps15
  go_wp2
  go_loopw [6] (fun i wr => ∃ v : Nat, v ≤ n ∧ i = .int .i64 v ∧ (∀ u, u < v → sf u ≤ sf (u + 1)) ∧ ∃ k, wr = w.drewN k) (fun i _ => n - (intOf i).toNat)
  case atStart => exact ⟨0, Nat.zero_le _, rfl, fun u hu => by omega, 0, rfl⟩
  case round =>
    obtain ⟨v, hv, rfl, hm, kw, rfl⟩ := hrel
    have Hm : Hid _ := hm
    clear hm
    by_cases hvn : v < n
    · have cv : w.cell? ⟨sb, so + v, none⟩ = some (.int .i64 (sf v)) := Hs.out.cellAt (i := v) (by omega)
      have cv1 : w.cell? ⟨sb, so + (v + 1), none⟩ = some (.int .i64 (sf (v + 1))) := Hs.out.cellAt (i := v + 1) (by omega)
      have q1 : (v : Int) < (n : Int) + 1 := by omega
      have q2 : (v : Int) + 1 < (n : Int) + 1 := by omega
      by_cases hd : sf (v + 1) < sf v
      · go_wp2
        go_quiet (fail)
        go_wp2
        exact hR.out _ _ ⟨⟨false, rfl, by simp⟩, kw + nq, by simp [World.drewN, Nat.add_assoc]⟩
      · go_wp2
        go_quiet (fail)
        go_wp2
        go_roundw
        case rel =>
          refine ⟨v + 1, by omega, by go_num, fun u hu => ?_, _, rfl⟩
          by_cases e : u = v
          · rw [e]; omega
          · exact Hm.out u (by omega)
        case measure => simp [intOf]; omega
    · obtain rfl : v = n := by omega
      by_cases hhi : (tl : Int) < sf v
      · go_wp2
        exact hR.out _ _ ⟨⟨false, rfl, by simp⟩, kw, rfl⟩
      go_wp2
      go_loop [7] (fun i => ∃ j : Nat, sf 0 ≤ j ∧ ((j : Int) ≤ sf v ∨ (j : Int) = sf 0) ∧ i = .int .i64 j ∧ (∀ u : Nat, sf 0 ≤ u → u < j → 0 ≤ tf u ∧ tf u < v)) (fun i => (sf v).toNat - (intOf i).toNat)
      case atStart => exact ⟨(sf 0).toNat, by omega, by omega, by rw [Int.toNat_of_nonneg (by omega)], fun u h1 h2 => by omega⟩
      case round =>
        obtain ⟨j, hj1, hj2, rfl, hin⟩ := hrel
        have Hin : Hid _ := hin
        clear hin
        by_cases hjn : (j : Int) < sf v
        · obtain ⟨tb, to', rfl, ct⟩ := Ht.out.cell j (by omega)
          have bt := wf32 (Ht.out.wf j (by omega))
          by_cases ht0 : tf j < 0
          · go_wp2
            exact hR.out _ _ ⟨⟨false, rfl, by simp⟩, kw, rfl⟩
          by_cases ht1 : (v : Int) ≤ tf j
          · go_wp2
            exact hR.out _ _ ⟨⟨false, rfl, by simp⟩, kw, rfl⟩
          go_wp2
          go_round
          case rel =>
            refine ⟨j + 1, by omega, by omega, by go_num, fun u h1 h2 => ?_⟩
            by_cases e : u = j
            · rw [e]; omega
            · exact Hin.out u h1 (by omega)
          case measure => simp [intOf]; omega
        · go_wp2
          refine hR.out _ _ ⟨⟨true, rfl, fun _ => ⟨by omega, by omega, fun u hu => Hm.out u (by omega), by simpa using hhi, fun u h1 h2 => ?_⟩⟩, kw, rfl⟩
          have h2' : (u : Int) < sf v := h2
          have := Hin.out u h1 (by omega)
          omega

theorem c16 (hc : Csr sl tl sf tf) (hsl : sl ≤ 131072) (htl : tl ≤ 262144) (hs : Ints .i64 w sa sl sf) :
    Calls Try.prog 16 #[.slice sa sl scap] w fun e w' => (∃ b : Bool, e = .returned (.bool b)) ∧ ∃ k, w' = w.drewN k := by
  refine calls_hide fun R' hR => ?_
  have hp := hc.pos
  obtain ⟨n, rfl⟩ : ∃ n, sl = n + 1 := ⟨sl - 1, by omega⟩
  obtain ⟨sb, so, rfl, c0⟩ := hs.cell 0 (by omega)
  have cn := hs.cellAt (i := n) (by omega)
  simp only [Nat.add_zero] at c0
  have h1 := hc.lo
  have h2 := hc.hi
  have h3 : sf 0 ≤ sf n := hc.le (Nat.zero_le _) (by omega)
  simp only [Nat.add_sub_cancel] at h2
  by_cases h0 : n = 0
  · subst h0
    go_enter Try.func16, Try.ntmps16
    go_wp2
    exact hR.out _ _ ⟨⟨_, rfl⟩, 0, rfl⟩
  · have q1 : (n : Int) < (n : Int) + 1 := by omega
    have q2 : (0 : Int) < (n : Int) + 1 := by omega
    clear hs hc
    go_enter Try.func16, Try.ntmps16
    go_wp2
    go_quiet (fail)
    go_wp2
    exact hR.out _ _ ⟨⟨_, rfl⟩, _, rfl⟩

/-- 'copyInts' of a slice that is not empty. -/
theorem c17 (hp : 1 ≤ sl) (hsl : sl ≤ 131072) (hs : Ints .i64 w sa sl sf) :
    Calls Try.prog 17 #[.slice sa sl scap] w fun e w' => (e = .returned (.slice (some ⟨w.heap.size, 0, none⟩) sl sl) ∧ Row w' w.heap.size sl (fun i => .int .i64 (sf i))) ∧ Below w.heap.size w w' := by
  refine calls_hide fun R' hR => ?_
  have hmk := run_make_row' (P := Try.prog) 27 3 (.int .i64 0) 8 Try.underlying27 info3 rfl .i64 .i64 sl (by omega) (by omega)
  have q27 : ∀ (w : World) (a : Option Addr) (n c n' c' : Nat), (binOp .eql 27 (.slice a n c) (.slice none n' c')).run Try.prog w = .ok (.bool a.isNone) w := fun w a n c n' c' => Lib.run_eql_slice_nil w _ _ a n c n' c' Try.underlying27
  obtain ⟨sb, so, rfl, c0⟩ := hs.cell 0 (by omega)
  have Hs : Hid _ := hs
  clear hs c0
  go_enter Try.func17, Try.ntmps17
  go_wp2
  go_loopw [4] (fun i wr => ∃ k : Nat, k ≤ sl ∧ i = .int .i64 k ∧ Below w.heap.size w wr ∧ ∃ f, Row wr w.heap.size sl f ∧ ∀ i, i < k → f i = .int .i64 (sf i)) (fun i _ => sl - (intOf i).toNat)
  case atStart => exact ⟨0, Nat.zero_le _, rfl, (Below.refl _ _).alloc (Nat.le_refl _) _, _, Row.made _ _ _ _, fun i hi => by omega⟩
  case round =>
    obtain ⟨k, hk, rfl, hB, f, hf, hfk⟩ := hrel
    clear hmk q27
    by_cases hlt : k < sl
    · have ck := Hs.out.cellAt hlt
      have ck' := (hB.cell (lt_of_cell ck)).trans ck
      have d1 := hf.cell hlt
      have d2 := hf.frozen k
      have HR : Hid (Below w.heap.size w (wr.setCell ⟨w.heap.size, k, none⟩ (.int .i64 (sf k))) ∧ ∃ f, Row (wr.setCell ⟨w.heap.size, k, none⟩ (.int .i64 (sf k))) w.heap.size sl f ∧ ∀ i, i < k + 1 → f i = .int .i64 (sf i)) := by
        refine ⟨hB.setCell (Nat.le_refl _) _, _, hf.set k _, fun i hi => ?_⟩
        by_cases e : i = k
        · rw [if_pos e, e]
        · rw [if_neg e]; exact hfk i (by omega)
      clear hB hf hfk ck
      go_wp2
      go_roundw
      case rel => exact ⟨k + 1, by omega, by go_num, HR.out⟩
      case measure => simp [intOf]; omega
    · have HR : Hid _ := And.intro hB (hf.congr (g := fun i => .int .i64 (sf i)) (fun i hi => hfk i (by omega)))
      clear hB hf hfk
      go_wp2
      exact hR.out _ _ ⟨⟨rfl, HR.out.2⟩, HR.out.1⟩

/-- 'copyInt32s' -/
theorem c18 (htl : tl ≤ 262144) (ht : Ints .i32 w ta tl tf) :
    Calls Try.prog 18 #[.slice ta tl tcap] w fun e w' => (∃ ta' tcap', e = .returned (.slice ta' tl tcap') ∧ (0 < tl → ta' = some ⟨w.heap.size, 0, none⟩ ∧ Row w' w.heap.size tl (fun i => .int .i32 (tf i)))) ∧ Below w.heap.size w w' := by
  refine calls_hide fun R' hR => ?_
  have hmk := run_make_row' (P := Try.prog) 28 21 (.int .i32 0) 4 Try.underlying28 info21 rfl .i64 .i64 tl (by omega) (by omega)
  have q28 : ∀ (w : World) (a : Option Addr) (n c n' c' : Nat), (binOp .eql 28 (.slice a n c) (.slice none n' c')).run Try.prog w = .ok (.bool a.isNone) w := fun w a n c n' c' => Lib.run_eql_slice_nil w _ _ a n c n' c' Try.underlying28
  cases ta with
  | none =>
    obtain rfl := ht.nil rfl
    go_enter Try.func18, Try.ntmps18
    go_wp2
    exact hR.out _ _ ⟨⟨none, 0, rfl, fun h => by omega⟩, Below.refl _ _⟩
  | some ad =>
  have Hs : Hid _ := ht
  clear ht
  go_enter Try.func18, Try.ntmps18
  go_wp2
  go_loopw [4] (fun i wr => ∃ k : Nat, k ≤ tl ∧ i = .int .i64 k ∧ Below w.heap.size w wr ∧ ∃ f, Row wr w.heap.size tl f ∧ ∀ i, i < k → f i = .int .i32 (tf i)) (fun i _ => tl - (intOf i).toNat)
  case atStart => exact ⟨0, Nat.zero_le _, rfl, (Below.refl _ _).alloc (Nat.le_refl _) _, _, Row.made _ _ _ _, fun i hi => by omega⟩
  case round =>
    obtain ⟨k, hk, rfl, hB, f, hf, hfk⟩ := hrel
    clear hmk q28
    by_cases hlt : k < tl
    · obtain ⟨tb, to', e, ck⟩ := Hs.out.cell k hlt
      obtain rfl := Option.some.inj e
      have ck' := (hB.cell (lt_of_cell ck)).trans ck
      have d1 := hf.cell hlt
      have d2 := hf.frozen k
      have HR : Hid (Below w.heap.size w (wr.setCell ⟨w.heap.size, k, none⟩ (.int .i32 (tf k))) ∧ ∃ f, Row (wr.setCell ⟨w.heap.size, k, none⟩ (.int .i32 (tf k))) w.heap.size tl f ∧ ∀ i, i < k + 1 → f i = .int .i32 (tf i)) := by
        refine ⟨hB.setCell (Nat.le_refl _) _, _, hf.set k _, fun i hi => ?_⟩
        by_cases e : i = k
        · rw [if_pos e, e]
        · rw [if_neg e]; exact hfk i (by omega)
      clear hB hf hfk ck
      go_wp2
      go_roundw
      case rel => exact ⟨k + 1, by omega, by go_num, HR.out⟩
      case measure => simp [intOf]; omega
    · have HR : Hid _ := And.intro hB (hf.congr (g := fun i => .int .i32 (tf i)) (fun i hi => hfk i (by omega)))
      clear hB hf hfk
      go_wp2
      exact hR.out _ _ ⟨⟨_, _, rfl, fun _ => ⟨rfl, HR.out.2⟩⟩, HR.out.1⟩
end
end Go.Proofs.Qxb6601391a.TJ
