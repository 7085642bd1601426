import Derived.Test.Qxb6601492aSJDecode
namespace Go.Proofs.Qxb6601492a.SJ
open Go.RowKit

/-- A text as a list of cells. -/
def txt (n : Nat) (f : Nat → Nat) : List Value := (List.range n).map (fun i => bval (f i))
theorem txt_len (n : Nat) (f : Nat → Nat) : (txt n f).length = n := by simp [txt]
theorem txt_get {n : Nat} {f : Nat → Nat} {i : Nat} (h : i < n) : (txt n f)[i]? = some (bval (f i)) := by simp [txt, h]
/-- A text and a piece behind it. -/
def tail (n : Nat) (f : Nat → Nat) (p : List Nat) (i : Nat) : Nat := if i < n then f i else p.getD (i - n) 0
theorem tail_get {n : Nat} {f : Nat → Nat} {p : List Nat} {i : Nat} (h : i < n + p.length) (z : Value) : (txt n f ++ p.map bval).getD i z = .int .u8 (tail n f p i : Int) := by
  rw [List.getD_eq_getElem?_getD]
  by_cases hi : i < n
  · rw [List.getElem?_append_left (by rw [txt_len]; exact hi), txt_get hi]
    unfold tail
    rw [if_pos hi]
    rfl
  · rw [List.getElem?_append_right (by rw [txt_len]; omega), txt_len, List.getElem?_map, List.getElem?_eq_getElem (by omega)]
    unfold tail
    rw [if_neg hi, List.getD_eq_getElem?_getD, List.getElem?_eq_getElem (by omega)]
    rfl
theorem owned_row {w : World} {base g n cap : Nat} {f : Nat → Nat} {p : List Nat} (h : w.ownsRow base 5 1 (.slice (some ⟨g, 0, none⟩) (n + p.length) cap) (n + p.length) (txt n f ++ p.map bval)) : Row w g (n + p.length) (fun i => .int .u8 (tail n f p i : Int)) :=
  (Row.owned h).congr (fun _ hi => tail_get hi _)
theorem owned_txt {w : World} {base g n cap : Nat} {f : Nat → Nat} (h : w.ownsRow base 5 1 (.slice (some ⟨g, 0, none⟩) n cap) n (txt n f)) : Row w g n (fun i => .int .u8 (f i : Int)) :=
  (Row.owned h).congr (fun i hi => by rw [List.getD_eq_getElem?_getD, txt_get hi]; rfl)

/-- 'zzCloneBytes': what it hands back is its own. -/
theorem c9o {ta : Option Addr} {n cap : Nat} {w : World} {tf : Nat → Int} (htl : n ≤ 1048576) (ht : Ints .u8 w ta n tf) :
    Calls Try.prog 9 #[.slice ta n cap] w fun e w' => (∃ ta', e = .returned (.slice ta' n n) ∧ w'.ownsRow w.heap.size 5 1 (.slice ta' n n) n (txt n (fun i => (tf i).toNat))) ∧ Below w.heap.size w w' := by
  refine calls_hide fun R' hR => ?_
  have hmk := run_make_row' (P := Try.prog) 22 5 (.int .u8 0) 1 Try.underlying22 info5 rfl .i64 .i64 n (by omega) (by omega)
  have q22 : ∀ (w : World) (a : Option Addr) (n c n' c' : Nat), (binOp .eql 22 (.slice a n c) (.slice none n' c')).run Try.prog w = .ok (.bool a.isNone) w := fun w a n c n' c' => Lib.run_eql_slice_nil w _ _ a n c n' c' Try.underlying22
  cases ta with
  | none =>
    obtain rfl := ht.nil rfl
    go_enter Try.func9, Try.ntmps9
    go_wp2
    exact hR.out _ _ ⟨⟨none, rfl, World.ownsRow_nil _ _ _ _⟩, Below.refl _ _⟩
  | some ad =>
  have Hs : Hid _ := ht
  clear ht
  have HM : Hid (∃ xs, (w.alloc (.cells (madeCells #[.int .u8 0] n) 5)).ownsRow w.heap.size 5 1 (.slice (some ⟨w.heap.size, 0, none⟩) n n) n xs) :=
    ⟨(madeCells #[.int .u8 0] n).toList.take (n * 1), by rw [List.length_take, Array.length_toList, size_madeCells]; simp, .inr ⟨w.heap.size, n, madeCells #[.int .u8 0] n, rfl, Nat.le_refl _, heap_alloc_new w _, Nat.le_refl _, by unfold maxLen; omega, by rw [size_madeCells]; simp, rfl⟩⟩
  go_enter Try.func9, Try.ntmps9
  go_wp2
  go_loopw [4] (fun i wr => ∃ k : Nat, k ≤ n ∧ i = .int .i64 k ∧ Below w.heap.size w wr ∧ ∃ xs, wr.ownsRow w.heap.size 5 1 (.slice (some ⟨w.heap.size, 0, none⟩) n n) n xs ∧ ∀ i, i < k → xs[i]? = some (.int .u8 (tf i))) (fun i _ => n - (intOf i).toNat)
  case atStart =>
    obtain ⟨xs, h⟩ := HM.out
    exact ⟨0, Nat.zero_le _, rfl, (Below.refl _ _).alloc (Nat.le_refl _) _, xs, h, fun i hi => by omega⟩
  case round =>
    clear HM
    obtain ⟨k, hk, rfl, hB, xs, hf, hfk⟩ := hrel
    clear hmk q22
    by_cases hlt : k < n
    · obtain ⟨tb, to', e, ck⟩ := Hs.out.cell k hlt
      obtain rfl := Option.some.inj e
      have ck' := (hB.cell (lt_of_cell ck)).trans ck
      have d1 := (Row.owned hf).cell hlt
      have d2 := (Row.owned hf).frozen k
      have HR : Hid (Below w.heap.size w (wr.setCell ⟨w.heap.size, k, none⟩ (.int .u8 (tf k))) ∧ ∃ xs, (wr.setCell ⟨w.heap.size, k, none⟩ (.int .u8 (tf k))).ownsRow w.heap.size 5 1 (.slice (some ⟨w.heap.size, 0, none⟩) n n) n xs ∧ ∀ i, i < k + 1 → xs[i]? = some (.int .u8 (tf i))) := by
        refine ⟨hB.setCell (Nat.le_refl _) _, _, (hf.stored k _).1, fun i hi => ?_⟩
        have hl : xs.length = n := by have := hf.1; omega
        by_cases e : i = k
        · rw [e, List.getElem?_set_self (by omega)]
        · rw [List.getElem?_set_ne (by omega)]; exact hfk i (by omega)
      clear hB hf hfk ck
      go_wp2
      go_roundw
      case rel => exact ⟨k + 1, by omega, by go_num, HR.out⟩
      case measure => simp [intOf]; omega
    · have HR : Hid (wr.ownsRow w.heap.size 5 1 (.slice (some ⟨w.heap.size, 0, none⟩) n n) n (txt n (fun i => (tf i).toNat))) := by
        have hl : xs.length = n := by have := hf.1; omega
        have e : xs = txt n (fun i => (tf i).toNat) := by
          apply List.ext_getElem?
          intro i
          by_cases hi : i < n
          · rw [hfk i (by omega), txt_get hi]
            have := wf8 (Hs.out.wf i hi)
            unfold bval
            rw [Int.toNat_of_nonneg this.1]
          · rw [List.getElem?_eq_none (by omega), List.getElem?_eq_none (by rw [txt_len]; omega)]
        rw [← e]
        exact hf
      have HB : Hid _ := hB
      clear hB hf hfk
      go_wp2
      exact hR.out _ _ ⟨⟨_, rfl, HR.out⟩, HB.out⟩

set_option maxRecDepth 100000 in
set_option maxHeartbeats 1000000 in
/-- THE LAW 'FnAppendUnitWritesOneCanonicalUnit' -/
theorem walk6 {ta : Option Addr} {n cap : Nat} {tf : Nat → Int} {w : World} (u : Nat) (hu : u < 65536) (ht : Ints .u8 w ta n tf) :
    Calls Try.prog 6 #[.slice ta n cap, .int .u16 u] w fun e w' => e = .returned (.bool true) ∧ Below w.heap.size w w' := by
  refine calls_hide fun R' hR => ?_
  have hbd := ht.bd
  have Ht : Hid _ := ht
  clear ht
  go_enter Try.func6, Try.ntmps6
  go_wp2_with fail
  refine (c18 _ hbd).mono ?_
  rintro e w1 ⟨⟨b, rfl⟩, rfl⟩
  cases b with
  | false =>
    go_wp2_with fail
    exact hR.out _ _ ⟨rfl, Below.refl _ _⟩
  | true =>
  by_cases h1 : 65536 < n
  · go_wp2_with fail
    exact hR.out _ _ ⟨rfl, Below.refl _ _⟩
  go_wp2_with fail
  refine (c9o (by omega) Ht.out).mono ?_
  rintro e w2 ⟨⟨ta', rfl, hown⟩, hB⟩
  have HB : Hid _ := hB
  have HO : Hid _ := hown
  have hsz := hB.size
  clear hB hown Ht
  obtain ⟨f, hf⟩ : ∃ f : Nat → Nat, f = fun i => (tf i).toNat := ⟨_, rfl⟩
  rw [← hf] at HO
  clear hf
  go_wp2_with fail
  refine (c19 hu (by omega) hsz HO.out).mono ?_
  rintro e w3 ⟨p, g, cap2, hp, rfl, ha⟩
  have hb3 := ha.full (fun a k h => by cases h; rfl)
  have HR : Hid _ := owned_row ha.own
  have HB3 : Hid _ := HB.out.trans (hb3.mono HB.out.size)
  have HP : Hid _ := hp
  have HO3 : Hid (0 < n → ∃ tb, ta' = some ⟨tb, 0, none⟩ ∧ Row w3 tb n (fun i => .int .u8 (f i : Int))) := by
    intro h0
    obtain ⟨tb, c, e, _, _⟩ := World.ownsRow.form (w := w2) HO.out h0
    cases e
    exact ⟨tb, rfl, (owned_txt HO.out).later hb3⟩
  clear hp ha HO HB hb3
  obtain ⟨m, hm⟩ : ∃ m, m = p.length := ⟨_, rfl⟩
  have hm6 : m ≤ 6 := by
    rw [hm]
    rcases HP.out with ⟨_, rfl⟩ | ⟨_, rfl⟩
    · show 1 ≤ 6; omega
    · exact Nat.le_refl 6
  rw [← hm] at HR ⊢
  have Hm : Hid _ := hm
  clear hm
  go_wp2_with fail
  go_loopw [6] (fun i wr => ∃ k q : Nat, k ≤ n ∧ i = .int .i64 k ∧ wr = w3.drewN q) (fun i _ => n - (intOf i).toNat)
  case atStart => exact ⟨0, 0, Nat.zero_le _, rfl, rfl⟩
  case round =>
    obtain ⟨k, q, hk, rfl, rfl⟩ := hrel
    by_cases hlt : k < n
    · obtain ⟨tb, rfl, hrow⟩ := HO3.out (by omega)
      have d1 := hrow.cell hlt
      have d2 := Row.cell HR.out (i := k) (by omega)
      have e2 : tail n f p k = f k := by unfold tail; rw [if_pos hlt]
      rw [e2] at d2
      have q1 : (k : Int) < (n : Int) := by omega
      have q2 : (k : Int) < (n : Int) + (m : Int) := by omega
      clear hrow e2
      go_wp2_with fail
      go_quiet (fail)
      go_wp2_with fail
      go_roundw
      case rel => exact ⟨k + 1, q + nq, by omega, by go_num, by simp⟩
      case measure => simp [intOf]; omega
    · go_wp2_with fail
      have hrow : Row (w3.drewN q) g (n + m) (fun i => .int .u8 (tail n f p i : Int)) := Row.drewN (w := w3) (b := g) (n := n + m) (f := fun i => .int .u8 (tail n f p i : Int)) HR.out q
      have hc := c20 (u := u) (i := n) (n := n + m) (tb := g) (cap := cap2) (p := p) (f := tail n f p) hu HP.out (by omega) (by have := Hm.out; omega) (fun j hj => by
        unfold tail
        rw [if_neg (by omega), show n + j - n = j by omega]) hrow
      rw [← Hm.out] at hc
      refine hc.mono ?_
      clear hc hrow
      rintro e w4 ⟨rfl, rfl⟩
      go_wp2_with fail
      exact hR.out _ _ ⟨rfl, below_drewN HB3.out _⟩
end Go.Proofs.Qxb6601492a.SJ
