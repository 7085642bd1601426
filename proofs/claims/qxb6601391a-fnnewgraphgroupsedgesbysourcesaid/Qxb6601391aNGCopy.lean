import Derived.Test.Qxb6601391aNGSmall
import Derived.Deep.Slices
namespace Go.Proofs.Qxb6601391a.NG
open Go.RowKit
theorem info31 : (Try.prog.info? 31).map (fun i => (i.zero, i.size, i.bytes)) = some (some (.slice none 0 0), 1, 24) := by kernel_rfl
theorem info32 : (Try.prog.info? 32).map (fun i => (i.zero, i.size, i.bytes)) = some (some (.agg #[.int .i32 0, .int .i32 0]), 2, 8) := by kernel_rfl
theorem info3 : (Try.prog.info? 3).map (fun i => (i.zero, i.size, i.bytes)) = some (some (.int .i64 0), 1, 8) := by kernel_rfl
theorem info21 : (Try.prog.info? 21).map (fun i => (i.zero, i.size, i.bytes)) = some (some (.int .i32 0), 1, 4) := by kernel_rfl

/-- 'make([][2]int32, n)': for every world. -/
theorem run_make_pairs (n : Nat) (hn : n ≤ 1048576) (w : World) : (Instr.makeSlice 31 (.int .i64 (n : Int)) (.int .i64 (n : Int))).run Try.prog w = .ok (.slice (some ⟨w.heap.size, 0, none⟩) n n) (w.alloc (.cells (madeCells #[.int .i32 0, .int .i32 0] (n * 2)) 32)) := by
  obtain ⟨i, hi, hz0, hz1, hz2⟩ := info_parts info32
  have hr := run_make (P := Try.prog) w 31 32 i _ Try.underlying31 hi hz0 .i64 .i64 n n (by omega) (Int.le_refl _) (by rw [hz2]; omega) (by omega)
  simp only [Int.toNat_natCast, hz1] at hr
  exact hr

/-- What the copy has come to: k blocks are copied. -/
def CR (w : World) (len : Nat) (L : Nat → Nat) (S T : Nat → Nat → Int) (k : Nat) (wr : World) : Prop :=
  Below w.heap.size w wr ∧ ∃ V : Nat → Value, wr.rowIs w.heap.size 31 len V ∧ (∀ i, k ≤ i → V i = .slice none 0 0) ∧
    ∀ i, i < k → ∃ A' C', V i = .slice A' (L i) C' ∧ (A' = none → C' = 0) ∧ ∀ j, j < L i → ∃ b, A' = some ⟨b, 0, none⟩ ∧ w.heap.size < b ∧ wr.cell? ⟨b, 0 + j * 2, none⟩ = some (.int .i32 (S i j)) ∧ wr.cell? ⟨b, 0 + j * 2 + 1, none⟩ = some (.int .i32 (T i j))

theorem cr_start (w : World) (len : Nat) (L : Nat → Nat) (S T : Nat → Nat → Int) : CR w len L S T 0 (w.alloc (.cells (madeCells #[.slice none 0 0] len) 31)) :=
  ⟨(Below.refl _ _).alloc (Nat.le_refl _) _, fun _ => .slice none 0 0, World.rowIs_made _ _ _ _, fun _ _ => rfl, fun i hi => by omega⟩

theorem cr_skip {w : World} {len : Nat} {L : Nat → Nat} {S T : Nat → Nat → Int} {k : Nat} {wr : World} (h : CR w len L S T k wr) (hL : L k = 0) : CR w len L S T (k + 1) wr := by
  obtain ⟨hb, V, hV, hn, ho⟩ := h
  refine ⟨hb, V, hV, fun i hi => hn i (by omega), fun i hi => ?_⟩
  by_cases e : i = k
  · subst e
    exact ⟨none, 0, by rw [hn i (Nat.le_refl _), hL], fun _ => rfl, fun j hj => by omega⟩
  · exact ho i (by omega)

/-- The inner loop: a new block, filled as far as q. -/
def CI (wo : World) (n : Nat) (S T : Nat → Int) (q : Nat) (wr : World) : Prop :=
  Below wo.heap.size wo wr ∧ ∃ f : Nat → Value, wr.rowIs wo.heap.size 32 (n * 2) f ∧ ∀ j, j < q → f (j * 2) = .int .i32 (S j) ∧ f (j * 2 + 1) = .int .i32 (T j)

theorem ci_start (wo : World) (n : Nat) (S T : Nat → Int) : CI wo n S T 0 (wo.alloc (.cells (madeCells #[.int .i32 0, .int .i32 0] (n * 2)) 32)) := by
  refine ⟨(Below.refl _ _).alloc (Nat.le_refl _) _, fun i => (#[Value.int .i32 0, .int .i32 0])[i % 2]!, ?_, fun j hj => by omega⟩
  refine ⟨_, Deep.blk_alloc_new _ _, size_madeCells _ _, fun i hi => ?_⟩
  simp [madeCells, hi]

theorem ci_step {wo : World} {n : Nat} {S T : Nat → Int} {q : Nat} {wr : World} (h : CI wo n S T q wr) (_hq : q < n) :
    CI wo n S T (q + 1) ((wr.setCell ⟨wo.heap.size, q * 2, none⟩ (.int .i32 (S q))).setCell ⟨wo.heap.size, q * 2 + 1, none⟩ (.int .i32 (T q))) := by
  obtain ⟨hb, f, hf, hv⟩ := h
  refine ⟨(hb.setCell (Nat.le_refl _) _).setCell (Nat.le_refl _) _, _, (hf.set (q * 2) (.int .i32 (S q))).set (q * 2 + 1) (.int .i32 (T q)), fun j hj => ?_⟩
  by_cases e : j = q
  · subst e
    refine ⟨?_, by simp⟩
    rw [if_neg (by omega)]
    simp
  · obtain ⟨h1, h2⟩ := hv j (by omega)
    rw [if_neg (by omega), if_neg (by omega), if_neg (by omega), if_neg (by omega)]
    exact ⟨h1, h2⟩

theorem cr_step {w : World} {len : Nat} {L : Nat → Nat} {S T : Nat → Nat → Int} {k : Nat} {wo wr : World} (h : CR w len L S T k wo) (hi : CI wo (L k) (S k) (T k) (L k) wr) :
    CR w len L S T (k + 1) (wr.setCell ⟨w.heap.size, k, none⟩ (.slice (some ⟨wo.heap.size, 0, none⟩) (L k) (L k))) := by
  obtain ⟨hb, V, hV, hn, ho⟩ := h
  obtain ⟨hb2, f, hf, hv⟩ := hi
  have hlt := hV.lt
  have hV2 : wr.rowIs w.heap.size 31 len V := hV.of_block (hb2.block _ hlt)
  refine ⟨(hb.trans (hb2.mono (by have := hb.size; omega))).setCell (Nat.le_refl _) _, _, hV2.set k _, fun i hik => ?_, fun i hik => ?_⟩
  · rw [if_neg (by omega)]
    exact hn i (by omega)
  · by_cases e : i = k
    · subst e
      refine ⟨some ⟨wo.heap.size, 0, none⟩, L i, by simp, by simp, fun j hj => ⟨wo.heap.size, rfl, hlt, ?_⟩⟩
      have hf' := hf.setOther (a := ⟨w.heap.size, i, none⟩) (v := (.slice (some ⟨wo.heap.size, 0, none⟩) (L i) (L i))) (by simp; omega)
      obtain ⟨h1, h2⟩ := hv j hj
      rw [Nat.zero_add, hf'.cell (by omega), hf'.cell (by omega), h1, h2]
      exact ⟨rfl, rfl⟩
    · obtain ⟨A', C', e1, e2, e3⟩ := ho i (by omega)
      refine ⟨A', C', by rw [if_neg e]; exact e1, e2, fun j hj => ?_⟩
      obtain ⟨b, q1, q2, q3, q4⟩ := e3 j hj
      have hbb : b < wo.heap.size := lt_of_cell q3
      refine ⟨b, q1, q2, ?_, ?_⟩
      · rw [World.cell?_setCell_other _ _ _ _ (by intro hx; injection hx; omega), hb2.cell hbb]; exact q3
      · rw [World.cell?_setCell_other _ _ _ _ (by intro hx; injection hx; omega), hb2.cell hbb]; exact q4

theorem cr_blocks {w : World} {ao : Option Addr} {len : Nat} {A : Nat → Option Addr} {L C : Nat → Nat} {S T : Nat → Nat → Int} {wr : World} (h : Blocks w ao len A L C S T) (hr : CR w len L S T len wr) :
    ∃ A' C', Blocks wr (some ⟨w.heap.size, 0, none⟩) len A' L C' S T := by
  obtain ⟨hb, V, hV, hn, ho⟩ := hr
  have hw : ∀ i, i < len → ∃ x : Option Addr × Nat, V i = .slice x.1 (L i) x.2 ∧ (x.1 = none → x.2 = 0) ∧ ∀ j, j < L i → ∃ b, x.1 = some ⟨b, 0, none⟩ ∧ w.heap.size < b ∧ wr.cell? ⟨b, 0 + j * 2, none⟩ = some (.int .i32 (S i j)) ∧ wr.cell? ⟨b, 0 + j * 2 + 1, none⟩ = some (.int .i32 (T i j)) := by
    intro i hi
    obtain ⟨A', C', e⟩ := ho i hi
    exact ⟨(A', C'), e⟩
  obtain ⟨X, hX⟩ := Deep.choose_lt hw
  refine ⟨fun i => (X i).1, fun i => (X i).2, fun i hi => ?_, fun i hi j hj => ?_, h.bS, h.bT, h.bL, fun i hi => (hX i hi).2.1⟩
  · exact ⟨w.heap.size, 0, rfl, by rw [Nat.zero_add, hV.cell hi, (hX i hi).1]⟩
  · obtain ⟨b, q1, _, q3, q4⟩ := (hX i hi).2.2 j hj
    exact ⟨b, 0, q1, q3, q4⟩

section
variable {ao : Option Addr} {len cap : Nat} {A : Nat → Option Addr} {L C : Nat → Nat} {S T : Nat → Nat → Int} {w : World}
/-- 'copyBlocks' -/
theorem c12 (hlen : len ≤ 131072) (htot : tot L len ≤ 131072) (hnil : ao = none → len = 0) (h : Blocks w ao len A L C S T) :
    Calls Try.prog 12 #[.slice ao len cap] w fun e w' => (∃ ao' cap' A' C', e = .returned (.slice ao' len cap') ∧ Blocks w' ao' len A' L C' S T) ∧ Below w.heap.size w w' := by
  refine calls_hide fun R' hR => ?_
  have hmk := run_make_row' (P := Try.prog) 22 31 (.slice none 0 0) 24 Try.underlying22 info31 rfl .i64 .i64 len (by omega) (by omega)
  have q22 : ∀ (w : World) (a : Option Addr) (n c n' c' : Nat), (binOp .eql 22 (.slice a n c) (.slice none n' c')).run Try.prog w = .ok (.bool a.isNone) w := fun w a n c n' c' => Lib.run_eql_slice_nil w _ _ a n c n' c' Try.underlying22
  have q31 : ∀ (w : World) (a : Option Addr) (n c n' c' : Nat), (binOp .eql 31 (.slice a n c) (.slice none n' c')).run Try.prog w = .ok (.bool a.isNone) w := fun w a n c n' c' => Lib.run_eql_slice_nil w _ _ a n c n' c' Try.underlying31
  cases ao with
  | none =>
    obtain rfl := hnil rfl
    go_enter Try.func12, Try.ntmps12
    go_wp2
    exact hR.out _ _ ⟨⟨none, 0, A, C, rfl, h⟩, Below.refl _ _⟩
  | some a =>
    go_enter Try.func12, Try.ntmps12
    go_wp2
    go_loopw [4] (fun i wr => ∃ k : Nat, k ≤ len ∧ i = .int .i64 k ∧ CR w len L S T k wr) (fun i _ => len - (intOf i).toNat)
    case atStart => exact ⟨0, Nat.zero_le _, rfl, cr_start _ _ _ _ _⟩
    case round =>
      obtain ⟨k, hk, rfl, hcr⟩ := hrel
      by_cases hlt : k < len
      · obtain ⟨b, o, hab, hck0⟩ := h.top k hlt
        have hck : wr.cell? ⟨b, o + k, none⟩ = some (.slice (A k) (L k) (C k)) := (hcr.1.cell (lt_of_cell hck0)).trans hck0
        obtain rfl := Option.some.inj hab
        have hLk := tot_lt L hlt
        have hmk2 := run_make_pairs (L k) (by omega)
        cases hA : A k with
        | none =>
          rw [hA] at hck
          have hL0 : L k = 0 := by
            rcases Nat.eq_zero_or_pos (L k) with e | e
            · exact e
            · obtain ⟨_, _, e2, _⟩ := h.cells k hlt 0 e
              rw [hA] at e2; cases e2
          have HC : Hid (CR w len L S T (k + 1) wr) := cr_skip hcr hL0
          clear hL0 hcr
          go_wp2
          go_roundw
          case rel => exact ⟨k + 1, by omega, by go_num, HC.out⟩
          case measure => simp [intOf]; omega
        | some ak =>
          rw [hA] at hck
          go_wp2
          obtain ⟨wo, rfl⟩ : ∃ wo : World, wo = wr := ⟨_, rfl⟩
          go_loopw [6] (fun i wr => ∃ q : Nat, q ≤ L k ∧ i = .int .i64 q ∧ CI wo (L k) (S k) (T k) q wr) (fun i _ => L k - (intOf i).toNat)
          case atStart => exact ⟨0, Nat.zero_le _, rfl, ci_start _ _ _ _⟩
          case round =>
            obtain ⟨q, hq, rfl, hci⟩ := hrel
            have hck2 : wr.cell? ⟨b, o + k, none⟩ = some (.slice (some ak) (L k) (C k)) := (hci.1.cell (lt_of_cell hck)).trans hck
            clear hmk hmk2 hck hck0
            by_cases hqt : q < L k
            · obtain ⟨b', o', hA', h1, h2⟩ := h.cells k hlt q hqt
              have h1' := (hci.1.cell (lt_of_cell ((hcr.1.cell (lt_of_cell h1)).trans h1))).trans ((hcr.1.cell (lt_of_cell h1)).trans h1)
              have h2' := (hci.1.cell (lt_of_cell ((hcr.1.cell (lt_of_cell h2)).trans h2))).trans ((hcr.1.cell (lt_of_cell h2)).trans h2)
              rw [hA] at hA'
              obtain rfl := Option.some.inj hA'
              have HC : Hid _ := ci_step hci hqt
              obtain ⟨hbe, f, hf, _⟩ := hci
              have d1 := hf.cell (i := q * 2) (by omega)
              have d2 := hf.cell (i := q * 2 + 1) (by omega)
              have e1 := hf.frozen (q * 2)
              have e2 := hf.frozen (q * 2 + 1)
              clear hf hbe hcr h1 h2 h
              go_wp2
              go_roundw
              case rel => exact ⟨q + 1, by omega, by go_num, HC.out⟩
              case measure => simp [intOf]; omega
            · obtain rfl : q = L k := by omega
              have HC : Hid _ := cr_step hcr hci
              obtain ⟨_, V, hV, _, _⟩ := hcr
              have hV2 : wr.rowIs w.heap.size 31 len V := hV.of_block (hci.1.block _ hV.lt)
              have d1 := hV2.cell hlt
              have e1 := hV2.frozen k
              clear hV hV2 hci h
              go_wp2
              go_roundw
              case rel => exact ⟨k + 1, by omega, by go_num, HC.out⟩
              case measure => simp [intOf]; omega
      · obtain rfl : k = len := by omega
        obtain ⟨A', C', hB⟩ := cr_blocks h hcr
        have HB : Hid _ := hB
        have HC : Hid _ := hcr.1
        clear hB hcr h
        go_wp2
        exact hR.out _ _ ⟨⟨_, _, A', C', rfl, HB.out⟩, HC.out⟩
end

end Go.Proofs.Qxb6601391a.NG
