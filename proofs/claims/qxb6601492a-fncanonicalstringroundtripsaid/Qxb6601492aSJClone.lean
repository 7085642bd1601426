import Derived.Test.Qxb6601492aSJSkip
namespace Go.Proofs.Qxb6601492a.SJ
open Go.RowKit
theorem info26 : (Try.prog.info? 26).map (fun i => (i.zero, i.size, i.bytes)) = some (some (.int .u16 0), 1, 2) := by kernel_rfl
theorem wf16 {n : Int} (h : (Lit.int .u16 n).wf = true) : 0 ≤ n ∧ n ≤ 65535 := bounds_u16 h

section
variable {ta : Option Addr} {n cap : Nat} {w : World}
theorem c21 (hs : n ≤ 9223372036854775807) :
    Calls Try.prog 21 #[.slice ta n cap] w fun e w' => (∃ b : Bool, e = .returned (.bool b)) ∧ w' = w := by
  refine calls_hide fun R' hR => ?_
  by_cases h1 : 1048576 < n
  · go_enter Try.func21, Try.ntmps21
    go_wp2
    exact hR.out _ _ ⟨⟨_, rfl⟩, rfl⟩
  go_enter Try.func21, Try.ntmps21
  go_wp2
  exact hR.out _ _ ⟨⟨_, rfl⟩, rfl⟩

/-- 'zzCloneUnits' -/
theorem c22 {tf : Nat → Int} (htl : n ≤ 1048576) (ht : Ints .u16 w ta n tf) :
    Calls Try.prog 22 #[.slice ta n cap] w fun e w' => (∃ ta' cap', e = .returned (.slice ta' n cap') ∧ (0 < n → ∃ b, ta' = some ⟨b, 0, none⟩ ∧ Row w' b n (fun i => .int .u16 ((tf i).toNat : Int)))) ∧ Below w.heap.size w w' := by
  refine calls_hide fun R' hR => ?_
  have hmk := run_make_row' (P := Try.prog) 31 26 (.int .u16 0) 2 Try.underlying31 info26 rfl .i64 .i64 n (by omega) (by omega)
  have q31 : ∀ (w : World) (a : Option Addr) (n c n' c' : Nat), (binOp .eql 31 (.slice a n c) (.slice none n' c')).run Try.prog w = .ok (.bool a.isNone) w := fun w a n c n' c' => Lib.run_eql_slice_nil w _ _ a n c n' c' Try.underlying31
  cases ta with
  | none =>
    obtain rfl := ht.nil rfl
    go_enter Try.func22, Try.ntmps22
    go_wp2
    exact hR.out _ _ ⟨⟨none, 0, rfl, fun h => by omega⟩, Below.refl _ _⟩
  | some ad =>
  have Hs : Hid (Ints .u16 w (some ad) n tf) := ht
  clear ht
  go_enter Try.func22, Try.ntmps22
  go_wp2
  go_loopw [4] (fun i wr => ∃ k : Nat, k ≤ n ∧ i = .int .i64 k ∧ Below w.heap.size w wr ∧ ∃ f, Row wr w.heap.size n f ∧ ∀ i, i < k → f i = .int .u16 (tf i)) (fun i _ => n - (intOf i).toNat)
  case atStart => exact ⟨0, Nat.zero_le _, rfl, (Below.refl _ _).alloc (Nat.le_refl _) _, _, Row.made _ _ _ _, fun i hi => by omega⟩
  case round =>
    obtain ⟨k, hk, rfl, hB, f, hf, hfk⟩ := hrel
    clear hmk q31
    by_cases hlt : k < n
    · obtain ⟨tb, to', e, ck⟩ := Hs.out.cell k hlt
      obtain rfl := Option.some.inj e
      have ck' := (hB.cell (lt_of_cell ck)).trans ck
      have d1 := hf.cell hlt
      have d2 := hf.frozen k
      have HR : Hid (Below w.heap.size w (wr.setCell ⟨w.heap.size, k, none⟩ (.int .u16 (tf k))) ∧ ∃ f, Row (wr.setCell ⟨w.heap.size, k, none⟩ (.int .u16 (tf k))) w.heap.size n f ∧ ∀ i, i < k + 1 → f i = .int .u16 (tf i)) := by
        refine ⟨hB.setCell (Nat.le_refl _) _, _, hf.set k _, fun i hi => ?_⟩
        by_cases e : i = k
        · rw [if_pos e, e]
        · rw [if_neg e]; exact hfk i (by omega)
      clear hB hf hfk ck
      go_wp2
      go_roundw
      case rel => exact ⟨k + 1, by omega, by go_num, HR.out⟩
      case measure => simp [intOf]; omega
    · have HR : Hid _ := And.intro hB (hf.congr (g := fun i => .int .u16 ((tf i).toNat : Int)) (fun i hi => by
        rw [hfk i (by omega)]
        have := wf16 (Hs.out.wf i hi)
        rw [Int.toNat_of_nonneg this.1]))
      clear hB hf hfk
      go_wp2
      exact hR.out _ _ ⟨⟨_, _, rfl, fun _ => ⟨_, rfl, HR.out.2⟩⟩, HR.out.1⟩
end
end Go.Proofs.Qxb6601492a.SJ
