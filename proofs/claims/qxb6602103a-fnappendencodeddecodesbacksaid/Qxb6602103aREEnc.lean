import Derived.Test.Qxb6602103aREWalk
import Derived.Deep.DeepCutAuto
namespace Go.Proofs.Qxb6602103a.RE
open Go.RowKit

/-- The bytes of a string. -/
def byt (s : ByteArray) (i : Nat) : Nat := if h : i < s.size then (s[i]'h).toNat else 0
theorem byt_lt (s : ByteArray) (i : Nat) : byt s i < 256 := by
  unfold byt
  split
  · exact UInt8.toNat_lt _
  · omega
theorem byt_ix {s : ByteArray} {k : Nat} (hk : k < s.size) : ∀ h, (s[k]'h).toNat = byt s k := by
  intro h
  unfold byt
  rw [dif_pos hk]

theorem hex_ix (d : Nat) (hd : d < 16) : ∀ h, (({ data := #[48, 49, 50, 51, 52, 53, 54, 55, 56, 57, 65, 66, 67, 68, 69, 70] } : ByteArray)[d]'h).toNat = hX d := by
  have key : ∀ d : Fin 16, (({ data := #[48, 49, 50, 51, 52, 53, 54, 55, 56, 57, 65, 66, 67, 68, 69, 70] } : ByteArray)[d.val]'(d.isLt)).toNat = hX d.val := by decide +kernel
  exact fun _ => key ⟨d, hd⟩
theorem run_hexU (w : World) (d : Nat) (hd : d < 16) : (Instr.index 9 (.string { data := #[48, 49, 50, 51, 52, 53, 54, 55, 56, 57, 65, 66, 67, 68, 69, 70] }) (.int .u8 (d : Int))).run Try.prog w = .ok (.int .u8 (hX d : Nat)) w := by
  rw [run_index_string w 9 _ .u8 (d : Int) Try.underlying9]
  have hsz : (({ data := #[48, 49, 50, 51, 52, 53, 54, 55, 56, 57, 65, 66, 67, 68, 69, 70] } : ByteArray).size : Int) = 16 := rfl
  rw [dif_pos ⟨by omega, by rw [hsz]; omega⟩]
  simp only [Int.toNat_natCast]
  rw [hex_ix d hd]
theorem and15 (u : Nat) (hu : u < 256) : bits .and .u8 (u : Int) 15 = ((u % 16 : Nat) : Int) := by
  have h := u8_and_nat u 15 hu (by omega)
  have e : u &&& 15 = u % 16 := Nat.and_two_pow_sub_one_eq_mod u 4
  rw [e] at h
  exact h
theorem news_of (w : World) (H : Nat) (hH : w.heap.size = H) (c : List Value) (t : TypeId) : ∀ j u, c[j]? = some u → (w.alloc (.cells c.toArray t)).cell? ((⟨H, 0, none⟩ : Addr).add j) = some u := by
  intro j u hj
  subst hH
  rw [Addr.add_lit, Nat.zero_add, World.cell?_alloc_new]
  simpa using hj

section
variable {s : ByteArray} {w : World}
set_option maxRecDepth 100000 in
set_option maxHeartbeats 2000000 in
/-- 'appendEncoded' onto nil. -/
theorem c35 (hn : s.size ≤ 1048576) :
    Calls Try.prog 35 #[.slice none 0 0, .string s] w fun e w' => ∃ v, e = .returned v ∧ w'.ownsRow w.heap.size 5 1 v (encs (byt s) s.size).length ((encs (byt s) s.size).map bval) ∧ Below w.heap.size w w' := by
  refine calls_hide fun R' hR => ?_
  obtain ⟨i0, hi, hz0, hz1, hz2⟩ := info_parts info5
  go_enter Try.func35, Try.ntmps35
  go_wp2
  go_loopw [0, 5] (fun v i wr => ∃ k : Nat, k ≤ s.size ∧ i = .int .i64 k ∧ wr.ownsRow w.heap.size 5 1 v (encs (byt s) k).length ((encs (byt s) k).map bval) ∧ Below w.heap.size w wr) (fun _ i _ => s.size - (intOf i).toNat)
  case atStart => exact ⟨0, Nat.zero_le _, rfl, World.ownsRow_nil _ _ _ _, Below.refl _ _⟩
  case round =>
    obtain ⟨k, hk, rfl, hown, hB⟩ := hrel
    by_cases hlt : k < s.size
    · have hix := byt_ix hlt
      obtain ⟨c, hc⟩ : ∃ c, c = byt s k := ⟨_, rfl⟩
      have hcb := byt_lt s k
      rw [← hc] at hix hcb
      have hsz := hB.size
      have hl3 := encs_len (byt s) k
      have hlen : (encs (byt s) (k + 1)).length = (encs (byt s) k).length + (enc c).length := by rw [encs, List.length_append, hc]
      have hmap : (encs (byt s) (k + 1)).map bval = (encs (byt s) k).map bval ++ (enc c).map bval := by rw [encs, List.map_append, hc]
      obtain ⟨m, hm⟩ : ∃ m, m = (encs (byt s) k).length := ⟨_, rfl⟩
      obtain ⟨xs, hxs⟩ : ∃ xs, xs = (encs (byt s) k).map bval := ⟨_, rfl⟩
      rw [← hm] at hlen hown hl3
      rw [← hxs] at hmap hown
      have HL : Hid _ := hlen
      have HM : Hid _ := hmap
      clear hlen hmap hm hxs hc
      have HO : Hid _ := hown
      have HB : Hid _ := hB
      clear hown hB
      have f1 : Unres c ∨ ¬ Unres c := Classical.em _
      rcases f1 with hu | hu
      · have HE : Hid (enc c = [c]) := by show enc c = [c]; unfold enc; rw [if_pos ((unresB_iff c).2 hu)]
        have HS : Hid _ := World.ownsRow.alloc (w := wr) HO.out (.cells #[.int .u8 (c : Int)] 5)
        go_upto_region 5 with (fail)
        go_cut [53] (fun b wc => b = .bool true ∧ wc = wr)
        case first =>
          clear HS HO HB HL HM HE hix
          rcases hu with h | h | h | rfl | rfl | rfl | rfl
          all_goals
            go_wp2
            all_goals go_meet
            all_goals exact ⟨rfl, rfl⟩
        case rest =>
          obtain ⟨rfl, rfl⟩ := hcut
          go_wp2_with (at_builtin; refine wpList_app rfl _ _ 38 rfl w.heap.size 5 i0 (.int .u8 0) 1 1 Try.underlying38 hi hz0 hz1 hz2 rfl (by omega) u0 m xs rfl HS.out ⟨wc.heap.size, 0, none⟩ 1 1 [.int .u8 (c : Int)] rfl rfl (news_of _ _ (by simp) [.int .u8 (c : Int)] _) (by simp [Value.oneCell']) (by omega) (by unfold maxLen; omega) (by omega) (by simp; omega) ?_; intro g cap w1 hown1 hgrow1 hfull1)
          have HR : Hid (w1.ownsRow w.heap.size 5 1 (.slice (some ⟨g, 0, none⟩) (m + 1) cap) (encs (byt s) (k + 1)).length ((encs (byt s) (k + 1)).map bval) ∧ Below w.heap.size w w1) := by
            rw [HL.out, HM.out, HE.out]
            exact ⟨hown1, (HB.out.alloc hsz _).grown hgrow1 (by simp; omega) (fun j hj => (World.ownsRow.lt (w := wc) HO.out j hj).1)⟩
          clear hown1 hgrow1 hfull1 HS
          go_roundw
          case rel => exact ⟨k + 1, by omega, by go_num, HR.out⟩
          case measure => simp [intOf]; omega
      · have HE : Hid (enc c = [37, hX (c / 16), hX (c % 16)]) := by show enc c = _; unfold enc; rw [if_neg (fun h => hu ((unresB_iff c).1 h))]
        have n1 : c < 65 ∨ 90 < c := by unfold Unres at hu; omega
        have n2 : c < 97 ∨ 122 < c := by unfold Unres at hu; omega
        have n3 : c < 48 ∨ 57 < c := by unfold Unres at hu; omega
        have n4 : ((c : Int) == 45) = false := by unfold Unres at hu; simp; omega
        have n5 : ((c : Int) == 46) = false := by unfold Unres at hu; simp; omega
        have n6 : ((c : Int) == 95) = false := by unfold Unres at hu; simp; omega
        have n7 : ((c : Int) == 126) = false := by unfold Unres at hu; simp; omega
        obtain ⟨d1, hd1⟩ : ∃ d1, d1 = c / 16 := ⟨_, rfl⟩
        obtain ⟨d0, hd0⟩ : ∃ d0, d0 = c % 16 := ⟨_, rfl⟩
        have s1 : (c : Int) / 16 = (d1 : Int) := by omega
        have b0 : bits .and .u8 (c : Int) 15 = (d0 : Int) := by rw [and15 c hcb, hd0]
        have i1 := fun w => run_hexU w d1 (by omega)
        have i00 := fun w => run_hexU w d0 (by omega)
        rw [← hd1, ← hd0] at HE
        obtain ⟨a1, ha1⟩ : ∃ a, a = hX d1 := ⟨_, rfl⟩
        obtain ⟨a0, ha0⟩ : ∃ a, a = hX d0 := ⟨_, rfl⟩
        rw [← ha1, ← ha0] at HE
        rw [← ha1] at i1
        rw [← ha0] at i00
        have HS : Hid _ := World.ownsRow.alloc (w := wr.drew) (World.ownsRow.drew (w := wr) HO.out) (.cells #[.int .u8 37, .int .u8 (a1 : Int), .int .u8 (a0 : Int)] 5)
        clear hd1 hd0 ha1 ha0 hu
        go_upto_region 5 with (fail)
        go_cut [53] (fun b wc => b = .bool false ∧ wc = wr)
        case first =>
          clear HS HO HB HL HM HE hix s1 b0 i1 i00
          rcases n1 with h | h <;> rcases n2 with h' | h' <;> rcases n3 with h'' | h''
          all_goals first | (exfalso; omega) | (go_wp2; all_goals go_meet; all_goals exact ⟨by first | rfl | (simp; omega), rfl⟩)
        case rest =>
          obtain ⟨rfl, rfl⟩ := hcut
          clear n1 n2 n3 n4 n5 n6 n7
          go_wp2
          go_region_held3 (fun _ => True) (trivial) ((refine step_app (by rfl) _ _ 38 (by rfl) w.heap.size 5 i0 (.int .u8 0) 1 1 Try.underlying38 hi hz0 hz1 hz2 rfl (by omega) u0 m xs (by rfl) HS.out ⟨wc.heap.size, 0, none⟩ 3 3 [.int .u8 37, .int .u8 (a1 : Int), .int .u8 (a0 : Int)] (by rfl) rfl (news_of _ _ (by simp) [.int .u8 37, .int .u8 (a1 : Int), .int .u8 (a0 : Int)] _) (by simp [Value.oneCell']) (by omega) (by unfold maxLen; omega) (by omega) (by simp; omega) ?_; intro g cap w1 hown1 hgrow1 hfull1))
          all_goals
            have HR : Hid (w1.ownsRow w.heap.size 5 1 (.slice (some ⟨g, 0, none⟩) (m + 3) cap) (encs (byt s) (k + 1)).length ((encs (byt s) (k + 1)).map bval) ∧ Below w.heap.size w w1) := by
              rw [HL.out, HM.out, HE.out]
              exact ⟨hown1, ((HB.out.drew).alloc hsz _).grown hgrow1 (by simp; omega) (fun j hj => (World.ownsRow.lt (w := wc) HO.out j hj).1)⟩
            clear hown1 hgrow1 hfull1 HS
            go_wp2
            go_roundw
            case rel => exact ⟨k + 1, by omega, by go_num, HR.out⟩
            case measure => simp [intOf]; omega
    · obtain rfl : k = s.size := by omega
      have HO : Hid _ := hown
      have HB : Hid _ := hB
      clear hown hB
      go_wp2
      exact hR.out _ _ ⟨_, rfl, HO.out, HB.out⟩
end
end Go.Proofs.Qxb6602103a.RE
