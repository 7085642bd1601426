import Derived.Test.Qxb6601492aSJStrG
import Derived.Test.Qxb6601492aSJClone
import Derived.Test.Qxb6601492aSJLawJ
import Derived.Test.Qxb6601492aSJLawU
namespace Go.Proofs.Qxb6601492a.SJ
open Go.RowKit

theorem owned_list {w : World} {base g n cap : Nat} {l : List Nat} (hl : l.length = n) (h : w.ownsRow base 5 1 (.slice (some ⟨g, 0, none⟩) n cap) n (l.map bval)) : Row w g n (fun i => .int .u8 ((l.getD i 0 : Nat) : Int)) :=
  (Row.owned h).congr (fun i hi => by
    rw [List.getD_eq_getElem?_getD, List.getElem?_map, List.getD_eq_getElem?_getD, List.getElem?_eq_getElem (by omega)]
    rfl)

theorem owns_cap {w : World} {base g n cap : Nat} {xs : List Value} (h : w.ownsRow base 5 1 (.slice (some ⟨g, 0, none⟩) n cap) n xs) : n ≤ cap := by
  rcases h with ⟨_, ⟨h', _⟩ | ⟨g', cap', cur, h', _, hg, hk, _, hs, htake⟩⟩
  · simp at h'
  · simp only [Value.slice.injEq, Option.some.injEq, Addr.mk.injEq, and_true, true_and] at h'
    omega
theorem target_good {f uf : Nat → Nat} {m n L : Nat} (hg : Good f uf m) (hu : ∀ k, k < m → uf k < 65536) (hL : L = bnd uf m) (hn : n = L + 1) : Target f n 0 n := by
  have hw := hg.whole hu
  have h0 : 1 ≤ L := by rw [hL]; unfold bnd; omega
  rw [← hL, ← hn] at hw
  have hv := Val.ofStr (f := f) (n := n) (p := 0) (q := L) (by omega) (by omega) hg.first hw
  rw [← hn] at hv
  exact ⟨by omega, hv, fun h => absurd hg.first h⟩

set_option maxRecDepth 100000 in
set_option maxHeartbeats 2000000 in
/-- THE LAW 'FnCanonicalStringRoundTrip' -/
theorem walk7 {ta : Option Addr} {m cap : Nat} {tf : Nat → Int} {w : World} (ht : Ints .u16 w ta m tf) :
    Calls Try.prog 7 #[.slice ta m cap] w fun e w' => e = .returned (.bool true) ∧ Below w.heap.size w w' := by
  refine calls_hide fun R' hR => ?_
  have hbd := ht.bd
  have Ht : Hid (Ints .u16 w ta m tf) := ht
  clear ht
  obtain ⟨i0, hi, hz0, hz1, hz2⟩ := info_parts info5
  have HI : Hid (Try.prog.info? 5 = some i0 ∧ i0.zero = some (.int .u8 0) ∧ i0.size = 1 ∧ i0.bytes = 1) := ⟨hi, hz0, hz1, hz2⟩
  clear hi hz0 hz1 hz2
  go_enter Try.func7, Try.ntmps7
  go_wp2_with fail
  refine (c21 hbd).mono ?_
  rintro e w1 ⟨⟨b, rfl⟩, rfl⟩
  cases b with
  | false =>
    go_wp2_with fail
    exact hR.out _ _ ⟨rfl, Below.refl _ _⟩
  | true =>
  by_cases h1 : 65536 < m
  · go_wp2_with fail
    exact hR.out _ _ ⟨rfl, Below.refl _ _⟩
  go_wp2_with fail
  refine (c22 (by omega) Ht.out).mono ?_
  rintro e w2 ⟨⟨ta', cap', rfl, hrow⟩, hB⟩
  have HU0 : Hid (∀ k, k < m → (tf k).toNat < 65536) := by
    intro k hk
    have := wf16 (Ht.out.wf k hk)
    omega
  obtain ⟨uf, huf⟩ : ∃ uf : Nat → Nat, uf = fun i => (tf i).toNat := ⟨_, rfl⟩
  have HU : Hid (∀ k, k < m → uf k < 65536) := by rw [huf]; exact HU0.out
  have HRow : Hid (0 < m → ∃ b, ta' = some ⟨b, 0, none⟩ ∧ Row w2 b m (fun i => .int .u16 (uf i : Int))) := by rw [huf]; exact hrow
  have HB : Hid (Below w1.heap.size w1 w2) := hB
  have hsz := hB.size
  clear hrow hB huf HU0 Ht
  go_wp2_with (first
    | (at_make; refine wpList_make_own _ rfl _ _ 22 rfl w2.heap.size 5 i0 (.int .u8 0) 1 Try.underlying22 HI.out.1 HI.out.2.1 HI.out.2.2.1 .i64 .i64 _ 2 rfl rfl (by omega) (by rw [HI.out.2.2.2]; omega) (by unfold maxLen; omega) (Nat.le_refl _) ?_; intro w3 hown0 hgrow0; have HO0 : Hid (w3.ownsRow w2.heap.size 5 1 (.slice (some ⟨w2.heap.size, 0, none⟩) 0 2) 0 [] ∧ w2.grownBy w3 none) := ⟨hown0, hgrow0⟩; clear hown0 hgrow0)
    | (at_builtin; refine wpList_app rfl _ _ 22 rfl w2.heap.size 5 i0 (.int .u8 0) 1 1 Try.underlying22 HI.out.1 HI.out.2.1 HI.out.2.2.1 HI.out.2.2.2 rfl (by omega) (.slice (some ⟨w2.heap.size, 0, none⟩) 0 2) 0 [] rfl (World.ownsRow.alloc HO0.out.1 _) ⟨w3.heap.size, 0, none⟩ 1 1 [.int .u8 34] rfl rfl (news_of _ _ (by simp) [.int .u8 34] _) (by simp [Value.oneCell']) (by omega) (by unfold maxLen; omega) (by omega) (by have := HO0.out.2.size; simp; omega) ?_; intro g0 cap0 w4 hown1 hgrow1 hfull1; have HA0 : Hid (Added w2.heap.size 0 (.slice (some ⟨w2.heap.size, 0, none⟩) 0 2) [] [34] w3 g0 cap0 w4) := added (.cells #[.int .u8 34] 5) 0 HO0.out.2.size HO0.out.1 hown1 hgrow1 hfull1; clear hown1 hgrow1 hfull1))
  have HB4 : Hid (Below w2.heap.size w2 w4) := ((Below.refl w2.heap.size w2).grown HO0.out.2 (Nat.le_refl _) (fun j hj => by simp at hj)).trans HA0.out.below
  have HO4 : Hid (w4.ownsRow w2.heap.size 5 1 (.slice (some ⟨g0, 0, none⟩) 1 cap0) 1 (([34] ++ body uf 0).map bval)) := HA0.out.own
  clear HO0 HA0
  go_loopw [3, 4] (fun v i wr => ∃ k L g cap : Nat, k ≤ m ∧ L = bnd uf k ∧ v = .slice (some ⟨g, 0, none⟩) L cap ∧ i = .int .i64 k ∧ Below w2.heap.size w2 wr ∧ wr.ownsRow w2.heap.size 5 1 (.slice (some ⟨g, 0, none⟩) L cap) L (([34] ++ body uf k).map bval)) (fun _ i _ => m - (intOf i).toNat)
  case atStart => exact ⟨0, 1, g0, cap0, Nat.zero_le _, rfl, rfl, rfl, HB4.out, HO4.out⟩
  case round =>
    clear HB4 HO4
    obtain ⟨k, L, g, cap, hkm, hL, rfl, rfl, hB, hown⟩ := hrel
    have hL6 : L ≤ 400000 := by have := bnd_le (uf := uf) k; omega
    by_cases hlt : k < m
    · obtain ⟨ub, rfl, hrow⟩ := HRow.out (by omega)
      have ck := (hrow.below hB hrow.lt).cell hlt
      have hsz4 := hB.size
      have HR : Hid (Below w2.heap.size w2 wr ∧ wr.ownsRow w2.heap.size 5 1 (.slice (some ⟨g, 0, none⟩) L cap) L (([34] ++ body uf k).map bval)) := ⟨hB, hown⟩
      have HL : Hid (L = bnd uf k) := hL
      have huk := HU.out k hlt
      clear hrow hB hown hL
      obtain ⟨u, hu⟩ : ∃ u, u = uf k := ⟨_, rfl⟩
      rw [← hu] at ck huk
      have Hu : Hid (u = uf k) := hu
      clear hu
      go_wp2_with fail
      refine (c19 huk (by omega) hsz4 HR.out.2).mono ?_
      rintro e w5 ⟨p, g', cap5, hp, rfl, ha⟩
      have HP : Hid (L + p.length = bnd uf (k + 1)) := by
        show L + p.length = bnd uf (k + 1)
        rw [bnd_succ, piece_eq hp, Hu.out, HL.out]
      have HA : Hid (Below w2.heap.size w2 w5 ∧ w5.ownsRow w2.heap.size 5 1 (.slice (some ⟨g', 0, none⟩) (L + p.length) cap5) (L + p.length) (([34] ++ body uf (k + 1)).map bval)) := by
        refine ⟨HR.out.1.trans ha.below, ?_⟩
        have e : ([34] ++ body uf (k + 1)).map bval = ([34] ++ body uf k).map bval ++ p.map bval := by
          rw [body, piece_eq hp, Hu.out, ← List.map_append, List.append_assoc]
        rw [e]
        exact ha.own
      clear hp ha HR
      obtain ⟨L', hL'⟩ : ∃ L', L' = L + p.length := ⟨_, rfl⟩
      rw [← hL'] at HP HA ⊢
      clear hL'
      go_wp2_with fail
      go_roundw
      case rel => exact ⟨k + 1, L', g', cap5, by omega, HP.out, rfl, by go_num, HA.out.1, HA.out.2⟩
      case measure => simp [intOf]; omega
    · obtain rfl : k = m := by omega
      have hsz4 := hB.size
      have HR : Hid (Below w2.heap.size w2 wr ∧ wr.ownsRow w2.heap.size 5 1 (.slice (some ⟨g, 0, none⟩) L cap) L (([34] ++ body uf k).map bval)) := ⟨hB, hown⟩
      have HL : Hid (L = bnd uf k) := hL
      clear hB hown hL
      go_wp2_with (at_builtin; refine wpList_app rfl _ _ 22 rfl w2.heap.size 5 i0 (.int .u8 0) 1 1 Try.underlying22 HI.out.1 HI.out.2.1 HI.out.2.2.1 HI.out.2.2.2 rfl (by omega) (.slice (some ⟨g, 0, none⟩) L cap) L (([34] ++ body uf k).map bval) rfl (World.ownsRow.alloc HR.out.2 _) ⟨wr.heap.size, 0, none⟩ 1 1 [.int .u8 34] rfl rfl (news_of _ _ (by simp) [.int .u8 34] _) (by simp [Value.oneCell']) (by omega) (by unfold maxLen; omega) (by omega) (by simp; omega) ?_; intro g1 cap1 w5 hown1 hgrow1 hfull1; have HA1 : Hid (Added w2.heap.size L (.slice (some ⟨g, 0, none⟩) L cap) (([34] ++ body uf k).map bval) [34] wr g1 cap1 w5) := added (.cells #[.int .u8 34] 5) 0 hsz4 HR.out.2 hown1 hgrow1 hfull1; clear hown1 hgrow1 hfull1; obtain ⟨n, hn⟩ : ∃ n, n = L + 1 := ⟨_, rfl⟩; rw [← hn]; have Hn : Hid (n = L + 1) := hn; clear hn)
      have hcap := owns_cap HA1.out.own
      have hcap : n ≤ cap1 := by have := Hn.out; simp at hcap; omega
      have hn4 : n ≤ 400001 := by have := Hn.out; omega
      have HT0 : Hid (Row w5 g1 n (fun i => .int .u8 (((gtxt uf k).getD i 0 : Nat) : Int))) := by
        refine owned_list (cap := cap1) (base := w2.heap.size) ?_ ?_
        · rw [gtxt_len, Hn.out, HL.out]
        · have e : (gtxt uf k).map bval = ([34] ++ body uf k).map bval ++ [34].map bval := by unfold gtxt; rw [List.map_append]
          rw [e, Hn.out]
          exact HA1.out.own
      have HB5 : Hid (Below w2.heap.size w2 w5) := HR.out.1.trans HA1.out.below
      obtain ⟨f, hf⟩ : ∃ f : Nat → Nat, f = fun i => (gtxt uf k).getD i 0 := ⟨_, rfl⟩
      have HG : Hid (Good f uf k) := by rw [hf]; exact good_of HU.out
      have HT : Hid (Row w5 g1 n (fun i => .int .u8 (f i : Int))) := by rw [hf]; exact HT0.out
      have HM : Hid (n = bnd uf k + 1) := by rw [← HL.out]; exact Hn.out
      have HTg : Hid (Target f n 0 n) := target_good HG.out HU.out HL.out Hn.out
      have hL1 : 1 ≤ L := by rw [HL.out]; unfold bnd; omega
      clear hf HT0 HA1 HR hsz4 hlt hkm
      go_loop [6] (fun v => ∃ i : Nat, v = .int .i64 i ∧ i ≤ n) (fun v => n - (intOf v).toNat)
      case atStart => exact ⟨0, rfl, Nat.zero_le _⟩
      case round =>
        obtain ⟨i, rfl, hin⟩ := hrel
        by_cases hlt : i < n
        · have ci := Row.cell HT.out hlt
          obtain ⟨h32, h126⟩ := HG.out.pr i (by have := HM.out; omega)
          obtain ⟨c, hc⟩ : ∃ c, c = f i := ⟨_, rfl⟩
          rw [← hc] at ci h32 h126
          clear hc
          go_wp2_with fail
          go_round
          case rel => exact ⟨i + 1, by go_num, by omega⟩
          case measure => simp [intOf]; omega
        · obtain rfl : i = n := by omega
          go_wp2_with fail
          refine (c13g HM.out (by omega) HG.out HU.out HT.out).mono ?_
          rintro e w6 ⟨rfl, rfl⟩
          go_wp2_with fail
          refine (c15 (d := i) (i := 1) (q := L) 0 (by omega) (by omega) (by have := Hn.out; omega) (by have := HG.out.whole HU.out; rw [← HM.out, ← HL.out] at this; exact this) (fun j hj => by have := (HG.out.pr j (by have := HM.out; omega)).2; omega) HT.out).mono ?_
          rintro e w7 ⟨he, hb7⟩
          rw [show (L : Int) + 1 = (i : Int) by have := Hn.out; omega] at he
          subst he
          have HB7 : Hid (Below w2.heap.size w2 w7) := HB5.out.trans (hb7.mono HB5.out.size)
          have HT7 : Hid (Row w7 g1 i (fun j => .int .u8 (f j : Int))) := Row.later HT.out hb7
          clear hb7 HB5 HT
          go_wp2_with fail
          refine (c11 (p := 0) (by omega) HTg.out (fun j hj => by have := (HG.out.pr j (by have := HM.out; omega)).2; omega) HT7.out).mono ?_
          rintro e w8 ⟨rfl, hb8⟩
          have HB8 : Hid (Below w2.heap.size w2 w8) := HB7.out.trans (hb8.mono HB7.out.size)
          have HT8 : Hid (Row w8 g1 i (fun j => .int .u8 (f j : Int))) := Row.later HT7.out hb8
          clear hb8 HB7 HT7
          have eL : (i : Int) - 1 = (L : Int) := by have := Hn.out; omega
          go_wp2_with fail
          clear eL
          go_loop [8, 9] (fun a b => ∃ j x : Nat, j ≤ k ∧ x = bnd uf j ∧ a = .int .i64 x ∧ b = .int .i64 j) (fun a _ => L - (intOf a).toNat)
          case atStart => exact ⟨0, 1, Nat.zero_le _, rfl, rfl, rfl⟩
          case round =>
            obtain ⟨j, x, hjk, hx, rfl, rfl⟩ := hrel
            have eL : (i : Int) - 1 = (L : Int) := by have := Hn.out; omega
            by_cases hlt : j < k
            · have hxl : x + (pc (uf j)).length ≤ L := by rw [hx, HL.out, ← bnd_succ]; exact bnd_mono hlt
              have hpl := (pc_len (uf j)).1
              obtain ⟨ub, rfl, hrow⟩ := HRow.out (by omega)
              have cu := (hrow.below HB8.out hrow.lt).cell hlt
              have HX : Hid (x + (pc (uf j)).length = bnd uf (j + 1)) := by show x + (pc (uf j)).length = bnd uf (j + 1); rw [hx, bnd_succ]
              obtain ⟨u, hu⟩ : ∃ u, u = uf j := ⟨_, rfl⟩
              obtain ⟨l, hl⟩ : ∃ l, l = (pc (uf j)).length := ⟨_, rfl⟩
              rw [← hl] at hxl hpl HX
              rw [← hu] at cu
              have Hl : Hid (l = (pc (uf j)).length) := hl
              have Hu : Hid (u = uf j) := hu
              have Hx : Hid (x = bnd uf j) := hx
              have q1 : (x : Int) < (L : Int) := by omega
              have d1 : decide ((x : Int) + (l : Int) ≤ (x : Int)) = false := decide_eq_false (by omega)
              clear hrow hu hl hx
              go_wp2_with fail
              have hc := c20 (u := uf j) (i := x) (n := L) (tb := g1) (cap := cap1) (p := pc (uf j)) (f := f) (w := w8) (HU.out j hlt) (piece_pc _) (by omega) (by rw [← Hl.out]; exact hxl) (fun y hy => by rw [Hx.out]; exact HG.out.mid j hlt y hy) (Row.mono HT8.out (by have := Hn.out; omega))
              rw [← Hl.out, ← Hu.out] at hc
              refine hc.mono ?_
              clear hc
              rintro e w9 ⟨rfl, rfl⟩
              go_wp2_with fail
              go_round
              case rel => exact ⟨j + 1, x + l, by omega, HX.out, by go_num, by go_num⟩
              case measure => simp [intOf]; omega
            · obtain rfl : j = k := by omega
              obtain rfl : x = L := by rw [hx, HL.out]
              clear hx
              go_wp2_with fail
              exact hR.out _ _ ⟨rfl, HB.out.trans (HB8.out.mono HB.out.size)⟩
end Go.Proofs.Qxb6601492a.SJ
