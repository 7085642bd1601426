import Derived.Test.Qxb6601391aNGNew
namespace Go.Proofs.Qxb6601391a.NG
open Go.RowKit
theorem Blocks.topAt {w : World} {b o len : Nat} {A : Nat → Option Addr} {L C : Nat → Nat} {S T : Nat → Nat → Int} (h : Blocks w (some ⟨b, o, none⟩) len A L C S T) {i : Nat} (hi : i < len) : w.cell? ⟨b, o + i, none⟩ = some (.slice (A i) (L i) (C i)) := by
  obtain ⟨b2, o2, e, hc⟩ := h.top i hi
  simp only [Option.some.injEq, Addr.mk.injEq, and_true] at e
  obtain ⟨rfl, rfl⟩ := e
  exact hc
section
variable {ao : Option Addr} {len cap : Nat} {A : Nat → Option Addr} {L C : Nat → Nat} {S T : Nat → Nat → Int} {w : World}

set_option maxRecDepth 100000 in
theorem c13 (x : Int) (n c : Nat) (hn : n ≤ 65536) (hc : c = tot L len) (hc1 : c ≤ 131072) (hlen : len ≤ 131072) (h : Blocks w ao len A L C S T)
    (hsrc : ∀ i, i < len → ∀ j, j < L i → 0 ≤ S i j ∧ S i j < n) :
    Calls Try.prog 13 #[.int .i64 x, .int .i64 n, .slice ao len cap, .int .i64 c] w fun e w' => (∃ sb tb t, e = .returned (.tuple #[.int .i64 x, .slice (some ⟨sb, 0, none⟩) (n + 1) (n + 1), .slice (some ⟨tb, 0, none⟩) c c]) ∧
      Row w' sb (n + 1) (fun v => .int .i64 ((lowc (rows L S T len) (v : Int) : Nat) : Int)) ∧ Row w' tb c (fun i => .int .i32 (t i)) ∧ Filled (rows L S T len) (rows L S T len) t) ∧ Below w.heap.size w w' := by
  refine calls_hide fun R' hR => ?_
  have HC : Hid _ := hc
  clear hc
  go_enter Try.func13, Try.ntmps13
  go_wp2_with fail
  refine (c22 x n c w.heap.size hn HC.out hc1 hlen (h.later ((Below.refl _ _).alloc (Nat.le_refl _) _)) hsrc (cap := cap) (by simp) (by simp)).mono ?_
  rintro e w1 ⟨⟨gb, sb, tb, t, rfl, hg, hf⟩, hb⟩
  have HB : Hid _ := (((Below.refl w.heap.size w).alloc (Nat.le_refl _) _).trans (hb.mono (by simp)))
  have hg0 : w1.cell? ⟨gb, 0, none⟩ = some (.int .i64 x) := hg.g.cell (i := 0) (by omega)
  have hg1 : w1.cell? ⟨gb, 1, none⟩ = some (.slice (some ⟨sb, 0, none⟩) (n + 1) (n + 1)) := hg.g.cell (i := 1) (by omega)
  have hg2 : w1.cell? ⟨gb, 2, none⟩ = some (.slice (some ⟨tb, 0, none⟩) c c) := hg.g.cell (i := 2) (by omega)
  have HG : Hid _ := hg
  have HF : Hid _ := hf
  clear hb hg hf
  go_wp2
  go_quiet (fail)
  go_wp2
  go_ret3
  exact hR.out _ _ ⟨⟨sb, tb, t, rfl, HG.out.s.drewN _, HG.out.t.drewN _, HF.out⟩, below_drewN HB.out _⟩

set_option maxRecDepth 100000 in
set_option maxHeartbeats 1000000 in
/-- THE LAW's WALK. -/
theorem walk (x n c : Int) (hlen : len ≤ 9223372036854775807) (hnil : ao = none → len = 0) (h : Blocks w ao len A L C S T) :
    Calls Try.prog 3 #[.int .i64 x, .int .i64 n, .slice ao len cap, .int .i64 c] w fun e w' => e = .returned (.bool true) ∧ Below w.heap.size w w' := by
  refine calls_hide fun R' hR => ?_
  go_enter Try.func3, Try.ntmps3
  go_wp2_with fail
  refine (c8 x n c hlen h).mono ?_
  rintro e w1 ⟨⟨b, rfl, -⟩, rfl⟩
  cases b with
  | false =>
    go_wp2_with fail
    exact hR.out _ _ ⟨rfl, Below.refl _ _⟩
  | true =>
  by_cases hl : 131072 < len
  · go_wp2_with fail
    exact hR.out _ _ ⟨rfl, Below.refl _ _⟩
  go_wp2_with fail
  refine (c9 (by omega) h).mono ?_
  rintro e w1 ⟨⟨m, rfl, hm⟩, rfl⟩
  by_cases hm1 : 1048576 < m
  · go_wp2_with fail
    exact hR.out _ _ ⟨rfl, Below.refl _ _⟩
  have hm2 := hm (by omega)
  clear hm
  go_wp2_with fail
  refine (c10 n c (by omega) (by omega) h).mono ?_
  rintro e w1 ⟨⟨b, rfl, hb⟩, rfl⟩
  cases b with
  | false =>
    go_wp2_with fail
    exact hR.out _ _ ⟨rfl, Below.refl _ _⟩
  | true =>
  obtain ⟨hn0, hn1, hsrc, hc⟩ := hb rfl
  clear hb
  have Hsrc : Hid _ := hsrc
  obtain ⟨nn, hnn⟩ : ∃ nn : Nat, n = (nn : Int) := ⟨n.toNat, by omega⟩
  subst hnn
  subst hc
  clear hsrc
  go_wp2_with fail
  refine (c11 nn (tot L len) (by omega) (by omega) (by omega)).mono ?_
  rintro e w1 ⟨⟨b, rfl⟩, rfl⟩
  cases b with
  | false =>
    go_wp2_with fail
    exact hR.out _ _ ⟨rfl, Below.refl _ _⟩
  | true =>
  go_wp2_with fail
  refine (c12 (by omega) (by omega) hnil h).mono ?_
  rintro e w1 ⟨⟨ao', cap', A', C', rfl, hB1⟩, hb1⟩
  go_wp2_with fail
  refine (c13 x nn (tot L len) (by omega) rfl (by omega) (by omega) hB1 Hsrc.out).mono ?_
  rintro e w2 ⟨⟨sb, tb, t, rfl, hs, ht, hf⟩, hb2⟩
  have hB2 := hB1.later hb2
  have HB : Hid _ := hb1.trans (hb2.mono hb1.size)
  have HF : Hid _ := hf
  have h0 : ∀ e ∈ rows L S T len, 0 ≤ e.1 := by
    intro e he
    obtain ⟨i, j, hi, hj, rfl⟩ := mem_rows he
    exact (Hsrc.out i hi j hj).1
  have hN : ∀ e ∈ rows L S T len, e.1 < (nn : Int) := by
    intro e he
    obtain ⟨i, j, hi, hj, rfl⟩ := mem_rows he
    exact (Hsrc.out i hi j hj).2
  have z0 : w2.cell? ⟨sb, 0, none⟩ = some (.int .i64 0) := by rw [hs.cell (i := 0) (by omega), show ((0 : Nat) : Int) = 0 from rfl, lowc_zero _ h0]; rfl
  have z1 : w2.cell? ⟨sb, nn, none⟩ = some (.int .i64 (tot L len : Nat)) := by rw [hs.cell (i := nn) (by omega), lowc_top _ _ hN, length_rows]
  clear hB1 hb1 hb2 hf h0 hN h
  go_wp2
  go_loopw [12] (fun i wr => ∃ v : Nat, v ≤ nn ∧ i = .int .i64 v ∧ Below w2.heap.size w2 wr) (fun i _ => nn - (intOf i).toNat)
  case atStart => exact ⟨0, Nat.zero_le _, rfl, Below.refl _ _⟩
  case round =>
    obtain ⟨v, hv, rfl, hbe⟩ := hrel
    clear z0 z1
    by_cases hvt : v < nn
    · have g1 := (hs.later hbe).cell (i := v) (by omega)
      have g2 := (hs.later hbe).cell (i := v + 1) (by omega)
      have hmo := lowc_mono (rows L S T len) (show (v : Int) ≤ ((v + 1 : Nat) : Int) by omega)
      have q1 : (v : Int) < (nn : Int) + 1 := by omega
      have q2 : (v : Int) + 1 < (nn : Int) + 1 := by omega
      have HBe : Hid _ := hbe
      clear hbe hs ht hB2
      generalize lowc (rows L S T len) (v : Int) = p1 at *
      generalize lowc (rows L S T len) ((v + 1 : Nat) : Int) = p2 at *
      go_wp2
      go_quiet (fail)
      go_wp2
      go_roundw
      case rel => exact ⟨v + 1, by omega, by go_num, below_drewN HBe.out _⟩
      case measure => simp [intOf]; omega
    · have HBe : Hid _ := hbe
      clear hbe
      go_wp2
      clear hv hvt
      go_loopw [13] (fun i wr => ∃ v : Nat, v ≤ nn ∧ i = .int .i64 v ∧ Below w2.heap.size w2 wr) (fun i _ => nn - (intOf i).toNat)
      case atStart => exact ⟨0, Nat.zero_le _, rfl, HBe.out⟩
      case round =>
        clear HBe
        obtain ⟨v, hv, rfl, hbe⟩ := hrel
        by_cases hvt : v < nn
        · obtain ⟨p1, hp1⟩ : ∃ p : Nat, p = lowc (rows L S T len) (v : Int) := ⟨_, rfl⟩
          obtain ⟨p2, hp2⟩ : ∃ p : Nat, p = lowc (rows L S T len) ((v + 1 : Nat) : Int) := ⟨_, rfl⟩
          have g1 : wr.cell? ⟨sb, v, none⟩ = some (.int .i64 (p1 : Int)) := by rw [hp1]; exact (hs.later hbe).cell (i := v) (by omega)
          have g2 : wr.cell? ⟨sb, v + 1, none⟩ = some (.int .i64 (p2 : Int)) := by rw [hp2]; exact (hs.later hbe).cell (i := v + 1) (by omega)
          have hp3 : p2 ≤ tot L len := by rw [hp2, ← length_rows L S T]; exact lowc_le _ _
          have hp4 : p2 = p1 + cnt (rows L S T len) (v : Int) := by rw [hp1, hp2, ← lowc_succ]; rfl
          have H1 : Hid _ := hp1
          have H2 : Hid _ := hp4
          have HBe : Hid _ := hbe
          clear hbe hp1 hp2 hp4
          go_wp2
          go_loopw [14, 16] (fun j i wr => ∃ k : Nat, k ≤ len ∧ i = .int .i64 k ∧ j = .int .i64 ((p1 + cnt (rows L S T k) (v : Int) : Nat) : Int) ∧ Below w2.heap.size w2 wr) (fun _ i _ => len - (intOf i).toNat)
          case atStart => exact ⟨0, Nat.zero_le _, rfl, by simp [rows, cnt_nil], HBe.out⟩
          case round =>
            clear HBe g1 g2
            obtain ⟨k, hk, rfl, rfl, hbe⟩ := hrel
            by_cases hlt : k < len
            · have hB3 := hB2.later hbe
              obtain ⟨b, o, rfl, hck⟩ := hB3.top k hlt
              have hLk := hB3.bL k hlt
              have hm := tot_lt L hlt
              have HBe : Hid _ := hbe
              clear hbe hB3
              go_wp2
              go_loopw [14, 17] (fun j i wr => ∃ q : Nat, q ≤ L k ∧ i = .int .i64 q ∧ j = .int .i64 ((p1 + cnt (pre L S T k q) (v : Int) : Nat) : Int) ∧ Below w2.heap.size w2 wr) (fun _ i _ => L k - (intOf i).toNat)
              case atStart => exact ⟨0, Nat.zero_le _, rfl, by rw [pre_zero], HBe.out⟩
              case round =>
                clear HBe hck
                obtain ⟨q, hq, rfl, rfl, hbe⟩ := hrel
                have hB3 := hB2.later hbe
                have hck := hB3.topAt hlt
                by_cases hqt : q < L k
                · obtain ⟨b', o', hA, h1, h2⟩ := hB3.cells k hlt q hqt
                  obtain ⟨r, hr⟩ := split_at L S T hlt hqt
                  have hbS := hB3.bS k hlt q hqt
                  have HBe : Hid _ := hbe
                  have e1 := cnt_snoc (pre L S T k q) (S k q, T k q) (v : Int)
                  by_cases hsv : S k q = (v : Int)
                  · have hpl := pos_lt hr
                    have hpp : pos (rows L S T len) (pre L S T k q) (S k q, T k q) = p1 + cnt (pre L S T k q) (v : Int) := by unfold pos; rw [H1.out, hsv]
                    rw [hpp, hsv] at hpl
                    have hT : t (p1 + cnt (pre L S T k q) (v : Int)) = T k q := by rw [← hpp]; exact HF.out _ _ _ hr
                    rw [if_pos hsv] at e1
                    have hp5 : p1 + cnt (pre L S T k q) (v : Int) < p2 := by rw [H2.out, H1.out, ← lowc_succ, ← H1.out]; exact hpl
                    obtain ⟨j, hj⟩ : ∃ j : Nat, j = p1 + cnt (pre L S T k q) (v : Int) := ⟨_, rfl⟩
                    have g3 : wr.cell? ⟨tb, j, none⟩ = some (.int .i32 (T k q)) := by rw [(ht.later hbe).cell (i := j) (by omega), hj, hT]
                    have Hj : Hid _ := hj
                    have He : Hid _ := e1
                    have Hsv : Hid _ := hsv
                    rw [hsv] at h1
                    rw [← hj] at hp5 ⊢
                    have htb : tb < wr.heap.size := (ht.later hbe).lt
                    clear hr hpl hpp hT hj e1 hbe hB3 hB2 hs ht hsv hbS
                    have hd : decide ((p2 : Int) ≤ (j : Int)) = false := decide_eq_false (by omega)
                    have hd1 : (j : Int) < ((tot L len : Nat) : Int) := by omega
                    have hd2 : (0 : Int) ≤ (j : Int) := by omega
                    go_wp2
                    go_quiet (fail)
                    go_wp2
                    go_roundw
                    case rel =>
                      refine ⟨q + 1, by omega, by go_num, ?_, below_drewN (HBe.out.alloc HBe.out.size _) _⟩
                      rw [pre_succ, He.out, Hj.out]
                      go_num
                    case measure => simp [intOf]; omega
                  · rw [if_neg hsv] at e1
                    obtain ⟨j, hj⟩ : ∃ j : Nat, j = p1 + cnt (pre L S T k q) (v : Int) := ⟨_, rfl⟩
                    have hd : (S k q != (v : Int)) = true := by simpa using hsv
                    have Hj : Hid _ := hj
                    have He : Hid _ := e1
                    rw [← hj]
                    clear hr e1 hj hbe hB3 hB2 hs ht hsv
                    go_wp2
                    go_roundw
                    case rel =>
                      refine ⟨q + 1, by omega, by go_num, ?_, HBe.out.alloc HBe.out.size _⟩
                      rw [pre_succ, He.out, Hj.out]
                      go_num
                    case measure => simp [intOf]; omega
                · obtain rfl : q = L k := by omega
                  have HBe : Hid _ := hbe
                  clear hbe hB3
                  go_wp2
                  go_roundw
                  case rel => exact ⟨k + 1, by omega, by go_num, by rw [pre_full], HBe.out⟩
                  case measure => simp [intOf]; omega
            · obtain rfl : k = len := by omega
              have HBe : Hid _ := hbe
              rw [← H2.out]
              clear hbe
              go_wp2
              go_roundw
              case rel => exact ⟨v + 1, by omega, by go_num, HBe.out⟩
              case measure => simp [intOf]; omega
        · have HBe : Hid _ := hbe
          clear hbe
          go_wp2
          exact hR.out _ _ ⟨rfl, HB.out.trans (HBe.out.mono HB.out.size)⟩
end
end Go.Proofs.Qxb6601391a.NG
