import Derived.Test.Qxb6602103aREEnc
import Derived.Laws.BytesArg
namespace Go.Proofs.Qxb6602103a.RE
open Go.RowKit

/-- The first k bytes as cells. -/
def txt (k : Nat) (f : Nat → Nat) : List Value := (List.range k).map (fun i => bval (f i))
theorem txt_len (k : Nat) (f : Nat → Nat) : (txt k f).length = k := by simp [txt]
theorem txt_succ (k : Nat) (f : Nat → Nat) : txt (k + 1) f = txt k f ++ [bval (f k)] := by simp [txt, List.range_succ]
theorem own_form {w : World} {base e size n : Nat} {v : Value} {xs : List Value} (h : w.ownsRow base e size v n xs) : ∃ ta cap, v = .slice ta n cap := by
  rcases h.2 with ⟨rfl, rfl⟩ | ⟨g, cap, _, rfl, _⟩
  · exact ⟨none, 0, rfl⟩
  · exact ⟨_, cap, rfl⟩
theorem own_cells {w : World} {base n cap : Nat} {ta : Option Addr} {l : List Nat} (h : w.ownsRow base 5 1 (.slice ta n cap) n (l.map bval)) (hl : l.length = n) {i : Nat} (hi : i < n) : ∃ g, ta = some ⟨g, 0, none⟩ ∧ w.cell? ⟨g, i, none⟩ = some (.int .u8 (l.getD i 0 : Nat)) := by
  obtain ⟨g, c, e, _, _⟩ := h.form (by omega)
  cases e
  refine ⟨g, rfl, ?_⟩
  rw [(Row.owned h).cell hi, List.getD_eq_getElem?_getD, List.getElem?_map, List.getD_eq_getElem?_getD, List.getElem?_eq_getElem (by omega)]
  rfl

section
variable {w : World}
set_option maxRecDepth 100000 in
set_option maxHeartbeats 2000000 in
/-- 'zzPctDecode' of what 'appendEncoded' wrote. -/
theorem c24 {f : Nat → Nat} {N base cap : Nat} {ta : Option Addr} (hf : ∀ i, f i < 256) (hN : N ≤ 1048576) (h : w.ownsRow base 5 1 (.slice ta (encs f N).length cap) (encs f N).length ((encs f N).map bval)) :
    Calls Try.prog 24 #[.slice ta (encs f N).length cap] w fun e w' => ∃ v, e = .returned (.tuple #[v, .bool true]) ∧ w'.ownsRow w.heap.size 5 1 v N (txt N f) ∧ Below w.heap.size w w' := by
  refine calls_hide fun R' hR => ?_
  obtain ⟨i0, hi, hz0, hz1, hz2⟩ := info_parts info5
  have hL := encs_len f N
  obtain ⟨l, hl⟩ : ∃ l, l = encs f N := ⟨_, rfl⟩
  obtain ⟨L, hLL⟩ : ∃ L, L = (encs f N).length := ⟨_, rfl⟩
  rw [← hLL] at hL h ⊢
  rw [← hl] at h
  have HC : Hid (∀ k, k < N → ∀ j, j < (enc (f k)).length → ∃ g, ta = some ⟨g, 0, none⟩ ∧ (encs f k).length + j < L ∧ g < w.heap.size ∧ w.cell? ⟨g, (encs f k).length + j, none⟩ = some (.int .u8 ((enc (f k)).getD j 0 : Nat))) := by
    intro k hk j hj
    have hlt := encs_lt f hk
    have hi : (encs f k).length + j < L := by omega
    obtain ⟨g, e, hc⟩ := own_cells h (by rw [hl, hLL]) hi
    refine ⟨g, e, hi, lt_of_cell hc, ?_⟩
    rw [hc, hl, encs_at f hk hj]
  have HLen : Hid (∀ k, k < N → (encs f k).length + (enc (f k)).length ≤ L) := fun k hk => by rw [hLL]; exact encs_lt f hk
  have HL : Hid (L = (encs f N).length) := hLL
  have Hf : Hid _ := hf
  clear hf h hl hLL
  go_enter Try.func24, Try.ntmps24
  go_wp2_with (at_make; refine wpList_make_own _ rfl _ _ 38 rfl w.heap.size 5 i0 (.int .u8 0) 1 Try.underlying38 hi hz0 hz1 .i64 .i64 _ L rfl rfl rfl (by rw [hz2]; omega) (by unfold maxLen; omega) (Nat.le_refl _) ?_; intro w0 hown0 hgrow0)
  have HB0 : Hid (Below w.heap.size w w0) := (Below.refl w.heap.size w).grown hgrow0 (Nat.le_refl _) (fun j hj => by simp at hj)
  have HO0 : Hid (w0.ownsRow w.heap.size 5 1 (.slice (some ⟨w.heap.size, 0, none⟩) 0 L) 0 (txt 0 f)) := hown0
  clear hown0 hgrow0
  go_wp2_with fail
  go_loopw [4, 5] (fun v i wr => ∃ k j : Nat, k ≤ N ∧ j = (encs f k).length ∧ i = .int .i64 j ∧ wr.ownsRow w.heap.size 5 1 v k (txt k f) ∧ Below w.heap.size w wr) (fun _ i _ => L - (intOf i).toNat)
  case atStart => exact ⟨0, 0, Nat.zero_le _, rfl, rfl, HO0.out, HB0.out⟩
  case round =>
    clear HO0 HB0
    obtain ⟨k, j, hk, hj, rfl, hown, hB⟩ := hrel
    have hsz := hB.size
    have HO : Hid _ := hown
    have HB : Hid _ := hB
    clear hown hB
    by_cases hlt : k < N
    · have hcb := Hf.out k
      have hx := HC.out k hlt
      have hle := HLen.out k hlt
      have hsucc : (encs f (k + 1)).length = j + (enc (f k)).length := by rw [encs, List.length_append, hj]
      have htx := txt_succ k f
      rw [← hj] at hx hle
      obtain ⟨c, hc⟩ : ∃ c, c = f k := ⟨_, rfl⟩
      rw [← hc] at hcb hx hle hsucc htx
      have HX : Hid _ := hx
      have HSu : Hid _ := hsucc
      have HTx : Hid _ := htx
      have HS : Hid _ := World.ownsRow.alloc (w := wr) HO.out (.cells #[.int .u8 (c : Int)] 5)
      have HFin : ∀ g cap w1, w1.ownsRow w.heap.size 5 1 (.slice (some ⟨g, 0, none⟩) (k + 1) cap) (k + 1) (txt k f ++ [.int .u8 (c : Int)]) → (wr.alloc (.cells #[.int .u8 (c : Int)] 5)).grownBy w1 (Value.ownBlock u4) → Hid (w1.ownsRow w.heap.size 5 1 (.slice (some ⟨g, 0, none⟩) (k + 1) cap) (k + 1) (txt (k + 1) f) ∧ Below w.heap.size w w1) := by
        intro g cap w1 h1 h2
        rw [HTx.out]
        exact ⟨h1, (HB.out.alloc hsz _).grown h2 (by simp; omega) (fun j hj => (World.ownsRow.lt (w := wr) HO.out j hj).1)⟩
      have HFin : Hid _ := HFin
      clear hc hx hsucc htx hj
      by_cases hu : unresB c = true
      · have he : enc c = [c] := by unfold enc; rw [if_pos hu]
        rw [he] at HX HSu hle
        obtain ⟨g, rfl, hgl, hgs, hcell⟩ := HX.out 0 (by simp)
        have d1 : wr.cell? ⟨g, j, none⟩ = some (.int .u8 (c : Int)) := (HB.out.cell (p := ⟨g, j, none⟩) hgs).trans hcell
        have n37 : ((c : Int) == 37) = false := by
          have := (unresB_iff c).1 hu
          unfold Unres at this
          simp; omega
        have hjl : j < L := by simpa using hgl
        clear hcell hgl
        go_wp2_with fail
        refine (c37 hcb).mono ?_
        rw [hu]
        rintro e w1 ⟨rfl, rfl⟩
        go_wp2_with (at_builtin; refine wpList_app rfl _ _ 38 rfl w.heap.size 5 i0 (.int .u8 0) 1 1 Try.underlying38 hi hz0 hz1 hz2 rfl (by omega) u4 k (txt k f) rfl HS.out ⟨w1.heap.size, 0, none⟩ 1 1 [.int .u8 (c : Int)] rfl rfl (news_of _ _ (by simp) [.int .u8 (c : Int)] _) (by simp [Value.oneCell']) (by omega) (by unfold maxLen; omega) (by omega) (by simp; omega) ?_; intro g cap w2 hown1 hgrow1 hfull1)
        have HR := HFin.out g cap w2 hown1 hgrow1
        clear hown1 hgrow1 hfull1
        go_wp2_with fail
        go_roundw
        case rel => exact ⟨k + 1, j + 1, by omega, HSu.out.symm, by go_num, HR.out⟩
        case measure => simp [intOf]; omega
      · have he : enc c = [37, hX (c / 16), hX (c % 16)] := by unfold enc; rw [if_neg hu]
        rw [he] at HX HSu hle
        obtain ⟨g, rfl, hgl0, hgs, hcell0⟩ := HX.out 0 (by simp)
        obtain ⟨g1, e1, hgl1, _, hcell1⟩ := HX.out 1 (by simp)
        obtain ⟨g2, e2, hgl2, _, hcell2⟩ := HX.out 2 (by simp)
        obtain rfl : g = g1 := by simpa using e1
        obtain rfl : g = g2 := by simpa using e2
        have d0 : wr.cell? ⟨g, j, none⟩ = some (.int .u8 37) := (HB.out.cell (p := ⟨g, j, none⟩) hgs).trans hcell0
        have d1 : wr.cell? ⟨g, j + 1, none⟩ = some (.int .u8 (hX (c / 16) : Nat)) := (HB.out.cell (p := ⟨g, j + 1, none⟩) hgs).trans hcell1
        have d2 : wr.cell? ⟨g, j + 2, none⟩ = some (.int .u8 (hX (c % 16) : Nat)) := (HB.out.cell (p := ⟨g, j + 2, none⟩) hgs).trans hcell2
        have hjl : j + 2 < L := hgl2
        have q3 : ¬ ((L : Int) - (j : Int) < 3) := by omega
        clear hcell0 hcell1 hcell2 hgl0 hgl1 hgl2 e1 e2
        go_wp2_with fail
        refine (c36 (show c / 16 < 16 by omega)).mono ?_
        rintro e w1 ⟨rfl, rfl⟩
        go_wp2_with fail
        refine (c36 (show c % 16 < 16 by omega)).mono ?_
        rintro e w2 ⟨rfl, rfl⟩
        go_wp2_with fail
        have ev : (c : Int) / 16 * 16 + (c : Int) % 16 = (c : Int) := by omega
        rw [ev]
        clear ev
        refine (c37 hcb).mono ?_
        rw [show unresB c = false by simpa using hu]
        rintro e w3 ⟨rfl, rfl⟩
        go_wp2_with (at_builtin; refine wpList_app rfl _ _ 38 rfl w.heap.size 5 i0 (.int .u8 0) 1 1 Try.underlying38 hi hz0 hz1 hz2 rfl (by omega) u4 k (txt k f) rfl HS.out ⟨w3.heap.size, 0, none⟩ 1 1 [.int .u8 (c : Int)] rfl rfl (news_of _ _ (by simp) [.int .u8 (c : Int)] _) (by simp [Value.oneCell']) (by omega) (by unfold maxLen; omega) (by omega) (by simp; omega) ?_; intro g3 cap3 w4 hown1 hgrow1 hfull1)
        have HR := HFin.out g3 cap3 w4 hown1 hgrow1
        clear hown1 hgrow1 hfull1
        go_wp2_with fail
        go_roundw
        case rel => exact ⟨k + 1, j + 3, by omega, HSu.out.symm, by go_num, HR.out⟩
        case measure => simp [intOf]; omega
    · obtain rfl : k = N := by omega
      have hjl : j = L := by rw [hj, HL.out]
      clear hj
      go_wp2_with fail
      exact hR.out _ _ ⟨_, rfl, HO.out, HB.out⟩

theorem c23 {s : ByteArray} (hn : s.size ≤ 1048576) :
    Calls Try.prog 23 #[.slice none 0 0, .string s] w fun e w' => ∃ v, e = .returned v ∧ w'.ownsRow w.heap.size 5 1 v (encs (byt s) s.size).length ((encs (byt s) s.size).map bval) ∧ Below w.heap.size w w' := by
  refine calls_hide fun R' hR => ?_
  go_enter Try.func23, Try.ntmps23
  go_wp2_with fail
  refine (c35 hn).mono ?_
  rintro e w1 ⟨v, rfl, h1, h2⟩
  have H1 : Hid _ := h1
  have H2 : Hid _ := h2
  clear h1 h2
  go_wp2_with fail
  exact hR.out _ _ ⟨v, rfl, H1.out, H2.out⟩

/-- The bytes read back make the string. -/
theorem str_back (s : ByteArray) : strOfNums ((List.range s.size).map (fun i => (byt s i : Int))) = s := by
  have h : ((List.range s.size).map (fun i => (byt s i : Int))).map (fun n => UInt8.ofNat n.toNat) = s.data.toList := by
    apply List.ext_getElem
    · rw [List.length_map, List.length_map, List.length_range, Array.length_toList]
      rfl
    · intro i h1 h2
      have h3 : i < s.size := by simpa using h1
      rw [List.getElem_map, List.getElem_map, List.getElem_range]
      have e : byt s i = (s[i]'h3).toNat := by unfold byt; rw [dif_pos h3]
      rw [e, Int.toNat_natCast, UInt8.ofNat_toNat]
      rfl
  unfold strOfNums
  rw [h]
theorem run_back {w : World} {s : ByteArray} {base : Nat} {ta : Option Addr} {cap : Nat} (h : w.ownsRow base 5 1 (.slice ta s.size cap) s.size (txt s.size (byt s))) : (convert 38 9 (.slice ta s.size cap)).run Try.prog w = .ok (.string s) w := by
  cases ta with
  | none =>
    have h0 : s.size = 0 := by
      rcases h.2 with ⟨_, h0⟩ | ⟨g, c, _, e, _⟩
      · exact h0
      · cases e
    have e : s = ByteArray.empty := by
      have := str_back s
      rw [h0] at this
      rw [← this]
      rfl
    rw [run_convert_bytes_string w 38 9 5 _ _ _ Try.underlying38 Try.underlying5 Try.underlying9]
    subst e
    rfl
  | some a =>
    obtain ⟨g, e⟩ : ∃ g, a = ⟨g, 0, none⟩ := by
      rcases h.2 with ⟨h0, _⟩ | ⟨g, c, _, e, _⟩
      · cases h0
      · cases e; exact ⟨g, rfl⟩
    subst e
    have := run_convert_bytes_arg (P := Try.prog) w 38 5 Try.underlying38 Try.underlying5 g 0 s.size cap ((List.range s.size).map (fun i => (byt s i : Int))) (by simp) (fun i hi => by
      rw [Nat.zero_add, (Row.owned h).cell hi]
      simp [txt, bval, hi]) 9 Try.underlying9
    rw [str_back] at this
    exact this

set_option maxRecDepth 100000 in
theorem walk6 {s : ByteArray} (hs : s.size ≤ 9223372036854775807) :
    Calls Try.prog 6 #[.string s] w fun e w' => e = .returned (.bool true) ∧ Below w.heap.size w w' := by
  refine calls_hide fun R' hR => ?_
  go_enter Try.func6, Try.ntmps6
  go_wp2_with fail
  refine (c22 hs).mono ?_
  rintro e w1 ⟨⟨b, rfl⟩, rfl⟩
  cases b with
  | false =>
    go_wp2_with fail
    exact hR.out _ _ ⟨rfl, Below.refl _ _⟩
  | true =>
  by_cases h1 : 1048576 < s.size
  · go_wp2_with fail
    exact hR.out _ _ ⟨rfl, Below.refl _ _⟩
  go_wp2_with fail
  refine (c23 (by omega)).mono ?_
  rintro e w2 ⟨v, rfl, hown, hB⟩
  obtain ⟨ta, cap, rfl⟩ := own_form hown
  have HO : Hid _ := hown
  have HB : Hid _ := hB
  clear hown hB
  go_wp2_with fail
  refine (c24 (byt_lt s) (by omega) HO.out).mono ?_
  rintro e w3 ⟨v, rfl, hown3, hB3⟩
  obtain ⟨ta3, cap3, rfl⟩ := own_form hown3
  have hcv := run_back hown3
  have HB3 : Hid _ := HB.out.trans (hB3.mono HB.out.size)
  clear hown3 hB3 HO HB
  go_wp2_with fail
  exact hR.out _ _ ⟨rfl, HB3.out⟩
end
end Go.Proofs.Qxb6602103a.RE
