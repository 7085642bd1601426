import Derived.Test.Qxb6601391aNGGraph
import Derived.Deep.DeepCutAuto
namespace Go.Proofs.Qxb6601391a.NG
open Go.RowKit
section
variable {ao : Option Addr} {len cap : Nat} {A : Nat → Option Addr} {L C : Nat → Nat} {S T : Nat → Nat → Int} {w : World}

set_option maxRecDepth 100000 in
set_option maxHeartbeats 1000000 in
theorem c22 (x : Int) (n c pb : Nat) (hn : n ≤ 65536) (hc : c = tot L len) (hc1 : c ≤ 131072) (hlen : len ≤ 131072) (h : Blocks w ao len A L C S T)
    (hsrc : ∀ i, i < len → ∀ j, j < L i → 0 ≤ S i j ∧ S i j < n)
    (hp0 : w.cell? ⟨pb, 0, none⟩ = some (.slice ao len cap)) (hp1 : w.cell? ⟨pb, 1, none⟩ = some (.int .i64 c)) :
    Calls Try.prog 22 #[.int .i64 x, .int .i64 n, .pointer (some ⟨pb, 0, none⟩)] w fun e w' => (∃ gb sb tb t, e = .returned (.pointer (some ⟨gb, 0, none⟩)) ∧ GS w.heap.size x n c gb sb tb (fun v => ((lowc (rows L S T len) (v : Int) : Nat) : Int)) t w' ∧ Filled (rows L S T len) (rows L S T len) t) ∧ Below w.heap.size w w' := by
  refine calls_hide fun R' hR => ?_
  have hmk := run_make_row' (P := Try.prog) 27 3 (.int .i64 0) 8 Try.underlying27 info3 rfl .i64 .i64 (n + 1) (by omega) (by omega)
  have ec : ((n + 1 : Nat) : Int) = (n : Int) + 1 := by omega
  rw [ec] at hmk
  have hmk2 := run_make_row' (P := Try.prog) 28 21 (.int .i32 0) 4 Try.underlying28 info21 rfl .i64 .i64 c (by omega) (by omega)
  clear ec
  have htot : tot L len ≤ 131072 := by rw [← hc]; exact hc1
  have HC : Hid (c = tot L len) := hc
  clear hc
  have hp1' : ∀ o, (w.alloc o).cell? ⟨pb, 1, none⟩ = some (.int .i64 c) := fun o => (World.cell?_alloc_lt w o _ (lt_of_cell hp1)).trans hp1
  have Hsrc : Hid _ := hsrc
  clear hsrc
  go_enter Try.func22, Try.ntmps22
  go_wp2
  go_cut [7] (fun s7 wc => ∃ gb sb tb, s7 = .pointer (some ⟨gb, 0, none⟩) ∧ Below w.heap.size w wc ∧ GS w.heap.size x n c gb sb tb (fun _ => 0) (fun _ => 0) wc)
  case first =>
    go_region
    all_goals go_wp2
    all_goals go_meet
    case rel => exact ⟨_, _, _, rfl, gs_start1 x n c w⟩
    case rel => exact ⟨_, _, _, rfl, gs_start2 x n c w⟩
  case rest =>
    obtain ⟨gb, sb, tb, rfl, hbe, hgs⟩ := hcut
    have hq0 : wc.cell? ⟨pb, 0, none⟩ = some (.slice ao len cap) := (hbe.cell (lt_of_cell hp0)).trans hp0
    have Hp0 : Hid _ := hp0
    clear hmk hmk2 hp1' hp1 hp0
    go_wp2
    go_loopw [34] (fun i wr => ∃ k : Nat, k ≤ len ∧ i = .int .i64 k ∧ Below w.heap.size w wr ∧ GS w.heap.size x n c gb sb tb (hist (rows L S T k)) (fun _ => 0) wr) (fun i _ => len - (intOf i).toNat)
    case atStart => exact ⟨0, Nat.zero_le _, rfl, hbe, hgs.congr (fun i _ => (hist_nil i).symm)⟩
    case round =>
      obtain ⟨k, hk, rfl, hbe1, hgs1⟩ := hrel
      by_cases hlt : k < len
      · obtain ⟨b, o, rfl, hck0⟩ := h.top k hlt
        have hck : wr.cell? ⟨b, o + k, none⟩ = some (.slice (A k) (L k) (C k)) := (hbe1.cell (lt_of_cell hck0)).trans hck0
        have hLk := h.bL k hlt
        have hm := tot_lt L hlt
        clear hck0
        go_wp2
        go_loopw [40] (fun i wr => ∃ q : Nat, q ≤ L k ∧ i = .int .i64 q ∧ Below w.heap.size w wr ∧ GS w.heap.size x n c gb sb tb (hist (pre L S T k q)) (fun _ => 0) wr) (fun i _ => L k - (intOf i).toNat)
        case atStart => exact ⟨0, Nat.zero_le _, rfl, hbe1, by rw [pre_zero]; exact hgs1⟩
        case round =>
          clear hck hgs1 hbe1
          obtain ⟨q, hq, rfl, hbe2, hgs2⟩ := hrel
          by_cases hqt : q < L k
          · obtain ⟨b', o', hA, h10, h20⟩ := h.cells k hlt q hqt
            have h1 := (hbe2.cell (lt_of_cell h10)).trans h10
            have h2 := (hbe2.cell (lt_of_cell h20)).trans h20
            obtain ⟨hs0, hs1⟩ := Hsrc.out k hlt q hqt
            obtain ⟨s, hs⟩ : ∃ s : Nat, S k q = (s : Int) := ⟨(S k q).toNat, by omega⟩
            have Hs : Hid (S k q = (s : Int)) := hs
            rw [hs] at h1 hs0 hs1
            clear hs
            have hhb := hist_bd (pre L S T k q) (s + 1)
            rw [length_pre] at hhb
            have hg1 : ∀ o, (wr.alloc o).cell? ⟨gb, 1, none⟩ = some (.slice (some ⟨sb, 0, none⟩) (n + 1) (n + 1)) := fun o => (hgs2.g.alloc o).cell (i := 1) (by omega)
            have hg2 : ∀ o, (wr.alloc o).cell? ⟨sb, s + 1, none⟩ = some (.int .i64 (hist (pre L S T k q) (s + 1))) := fun o => (hgs2.s.alloc o).cell (i := s + 1) (by omega)
            have hg3 : ∀ o, (wr.alloc o).frozen? ⟨sb, s + 1, none⟩ = false := fun o => (hgs2.s.alloc o).frozen _
            have HB : Hid _ := hbe2
            have HG : Hid _ := hgs2
            clear hbe2 hgs2 h10 h20
            go_wp2
            go_region
            all_goals go_wp2
            go_roundw
            case rel =>
              refine ⟨q + 1, by omega, by go_num, (((HB.out.alloc HB.out.size _).setCell HG.out.ns _)).drew, ?_⟩
              rw [pre_succ, Hs.out]
              exact (((HG.out.alloc _).setS _ _).congr (fun i _ => (hist_snoc _ _ _ _).symm)).drew
            case measure => simp [intOf]; omega
          · obtain rfl : q = L k := by omega
            rw [pre_full] at hgs2
            have HB : Hid _ := hbe2
            have HG : Hid _ := hgs2
            clear hbe2 hgs2
            go_wp2
            go_roundw
            case rel => exact ⟨k + 1, by omega, by go_num, HB.out, HG.out⟩
            case measure => simp [intOf]; omega
      · obtain rfl : k = len := by omega
        have h0 : ∀ e ∈ rows L S T k, 0 ≤ e.1 := by
          intro e he
          obtain ⟨i, j, hi, hj, rfl⟩ := mem_rows he
          exact (Hsrc.out i hi j hj).1
        have HG : Hid _ := hgs1.congr (fun i _ => (sums_zero h0 i).symm)
        have HB : Hid _ := hbe1
        clear hgs1 hbe1 hgs hbe h0
        go_wp2
        go_loopw [58] (fun i wr => ∃ v : Nat, v ≤ n ∧ i = .int .i64 v ∧ Below w.heap.size w wr ∧ GS w.heap.size x n c gb sb tb (sums (rows L S T k) v) (fun _ => 0) wr) (fun i _ => n - (intOf i).toNat)
        case atStart => exact ⟨0, Nat.zero_le _, rfl, HB.out, HG.out⟩
        case round =>
          clear HG HB
          obtain ⟨v, hv, rfl, hbe1, hgs1⟩ := hrel
          by_cases hvt : v < n
          · have hb1 := sums_bd (rows L S T k) v (v + 1)
            have hb2 := sums_bd (rows L S T k) v v
            rw [length_rows] at hb1 hb2
            have hg1 : wr.cell? ⟨gb, 1, none⟩ = some (.slice (some ⟨sb, 0, none⟩) (n + 1) (n + 1)) := hgs1.g.cell (i := 1) (by omega)
            have hg2 : wr.cell? ⟨sb, v + 1, none⟩ = some (.int .i64 (sums (rows L S T k) v (v + 1))) := hgs1.s.cell (i := v + 1) (by omega)
            have hg3 : wr.cell? ⟨sb, v, none⟩ = some (.int .i64 (sums (rows L S T k) v v)) := hgs1.s.cell (i := v) (by omega)
            have hg4 : wr.frozen? ⟨sb, v + 1, none⟩ = false := hgs1.s.frozen _
            have HB : Hid _ := hbe1
            have HG : Hid _ := hgs1
            clear hbe1 hgs1
            go_wp2
            go_region
            all_goals go_wp2
            go_roundw
            case rel => exact ⟨v + 1, by omega, by go_num, ((HB.out.setCell HG.out.ns _)).drew, ((HG.out.setS _ _).congr (fun i _ => (sums_step _ _ _).symm)).drew⟩
            case measure => simp [intOf]; omega
          · obtain rfl : v = n := by omega
            have hg1 : wr.cell? ⟨gb, 1, none⟩ = some (.slice (some ⟨sb, 0, none⟩) (v + 1) (v + 1)) := hgs1.g.cell (i := 1) (by omega)
            have HB : Hid _ := hbe1
            have HG : Hid _ := hgs1
            clear hbe1 hgs1
            go_wp2_with fail
            refine (c25 wr sb v (v + 1) (sums (rows L S T k) v) (by omega) (HG.out.s.mono (by omega))).mono ?_
            rintro e w1 ⟨⟨nao, ncap, rfl, hnx⟩, hb1⟩
            have HP : Hid _ := ps_start HB.out.size HG.out hb1 hnx
            have HB1 : Hid _ := HB.out.trans (hb1.mono HB.out.size)
            have hq1 : w1.cell? ⟨pb, 0, none⟩ = some (.slice ao k cap) := (HB1.out.cell (lt_of_cell Hp0.out)).trans Hp0.out
            clear hnx hb1 HB HG hg1
            go_wp2
            go_loopw [91] (fun i wr => ∃ q : Nat, q ≤ k ∧ i = .int .i64 q ∧ Below w.heap.size w wr ∧ PS w.heap.size x v c gb sb tb nao (rows L S T k) (rows L S T q) wr) (fun i _ => k - (intOf i).toNat)
            case atStart => exact ⟨0, Nat.zero_le _, rfl, HB1.out, HP.out⟩
            case round =>
              clear HP HB1 hq1
              obtain ⟨q, hq, rfl, hbe1, hps1⟩ := hrel
              by_cases hlt : q < k
              · obtain ⟨b, o, rfl, hck0⟩ := h.top q hlt
                have hck : wr.cell? ⟨b, o + q, none⟩ = some (.slice (A q) (L q) (C q)) := (hbe1.cell (lt_of_cell hck0)).trans hck0
                have hLk := h.bL q hlt
                have hm := tot_lt L hlt
                have HP : Hid _ := hps1
                have HB1 : Hid _ := hbe1
                clear hck0 hps1 hbe1
                go_wp2
                go_loopw [97] (fun i wr => ∃ j : Nat, j ≤ L q ∧ i = .int .i64 j ∧ Below w.heap.size w wr ∧ PS w.heap.size x v c gb sb tb nao (rows L S T k) (pre L S T q j) wr) (fun i _ => L q - (intOf i).toNat)
                case atStart => exact ⟨0, Nat.zero_le _, rfl, HB1.out, by rw [pre_zero]; exact HP.out⟩
                case round =>
                  clear hck HP HB1
                  obtain ⟨j, hj, rfl, hbe2, hps2⟩ := hrel
                  by_cases hjt : j < L q
                  · obtain ⟨b', o', hA, h10, h20⟩ := h.cells q hlt j hjt
                    have h1 := (hbe2.cell (lt_of_cell h10)).trans h10
                    have h2 := (hbe2.cell (lt_of_cell h20)).trans h20
                    obtain ⟨hs0, hs1⟩ := Hsrc.out q hlt j hjt
                    obtain ⟨s, hs⟩ : ∃ s : Nat, S q j = (s : Int) := ⟨(S q j).toNat, by omega⟩
                    have Hs : Hid (S q j = (s : Int)) := hs
                    rw [hs] at h1 hs0 hs1
                    clear hs
                    obtain ⟨r, hr⟩ := split_at L S T hlt hjt
                    rw [Hs.out] at hr
                    have HP : Hid _ := hps2
                    have HB : Hid _ := hbe2
                    obtain ⟨t, hg, hf, hx⟩ := hps2
                    obtain ⟨nb, rfl, hN, n1, n2, n3, hrow⟩ := hx (by omega)
                    obtain ⟨p, hp⟩ : ∃ p : Nat, p = lowc (rows L S T k) (s : Int) + cnt (pre L S T q j) (s : Int) := ⟨_, rfl⟩
                    have hpl := pos_lt_length hr
                    have hpp : pos (rows L S T k) (pre L S T q j) ((s : Int), T q j) = p := by unfold pos; exact hp.symm
                    rw [hpp, length_rows, ← HC.out] at hpl
                    have hg1 : wr.cell? ⟨gb, 2, none⟩ = some (.slice (some ⟨tb, 0, none⟩) c c) := hg.g.cell (i := 2) (by omega)
                    have hg2 : wr.cell? ⟨nb, s, none⟩ = some (.int .i64 (p : Int)) := by rw [hp]; exact hrow.cell (i := s) (by omega)
                    have hg3 : wr.cell? ⟨tb, p, none⟩ = some (.int .i32 (t p)) := hg.t.cell (i := p) hpl
                    have hg4 : wr.frozen? ⟨tb, p, none⟩ = false := hg.t.frozen _
                    have hg5 : wr.frozen? ⟨nb, s, none⟩ = false := hrow.frozen _
                    have hgb : gb < wr.heap.size := hg.g.lt
                    have htb : tb < wr.heap.size := hg.t.lt
                    have hnb : nb < wr.heap.size := hrow.lt
                    have HS : Hid _ := ps_step HP.out (by omega) hr hp
                    have HT : Hid _ := hg.nt
                    have HN : Hid _ := hN
                    clear hp hpp hrow hx hf hg h10 h20 hr hbe2 hN HP n1 n2
                    go_wp2
                    go_region
                    all_goals go_wp2
                    go_roundw
                    case rel =>
                      refine ⟨j + 1, by omega, by go_num, (((HB.out.setCell HT.out _).setCell HN.out _).alloc (by simpa using HB.out.size) _).drew, ?_⟩
                      rw [pre_succ, Hs.out]
                      exact PS.drew (PS.alloc HS.out _)
                    case measure => simp [intOf]; omega
                  · obtain rfl : j = L q := by omega
                    rw [pre_full] at hps2
                    have HB : Hid _ := hbe2
                    have HG : Hid _ := hps2
                    clear hbe2 hps2
                    go_wp2
                    go_roundw
                    case rel => exact ⟨q + 1, by omega, by go_num, HB.out, HG.out⟩
                    case measure => simp [intOf]; omega
              · obtain rfl : q = k := by omega
                have HB : Hid _ := hbe1
                have HG : Hid _ := hps1
                clear hbe1 hps1
                go_wp2
                obtain ⟨t, hg, hf, _⟩ := HG.out
                exact hR.out _ _ ⟨⟨gb, sb, tb, t, rfl, hg, hf⟩, HB.out⟩
end
end Go.Proofs.Qxb6601391a.NG
