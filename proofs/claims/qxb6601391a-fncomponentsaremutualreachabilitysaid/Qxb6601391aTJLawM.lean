import Derived.Test.Qxb6601391aTJZZ
namespace Go.Proofs.Qxb6601391a.TJ
open Go.RowKit Go.Proofs.Qxb6601391a.NG

theorem info4 : (Try.prog.info? 4).map (fun i => (i.zero, i.size, i.bytes)) = some (some (.bool false), 1, 1) := by kernel_rfl

/-- The graph that 'csrInDomain' let by, its copies in rows of the law's own. -/
theorem rg_of {n sb : Nat} {tl : Nat} {sf tf : Nat → Int} {ta' : Option Addr} {w : World} (hc : Csr (n + 1) tl sf tf) (hs : Row w sb (n + 1) (fun i => .int .i64 (sf i))) (ht : 0 < tl → ∃ tb, ta' = some ⟨tb, 0, none⟩ ∧ Row w tb tl (fun i => .int .i32 (tf i))) :
    RG n sb ta' tl (fun v => (sf v).toNat) (fun j => (tf j).toNat) w := by
  have h0 : ∀ v, v < n + 1 → 0 ≤ sf v := fun v hv => Int.le_trans hc.lo (hc.le (Nat.zero_le v) hv)
  have hhi : sf n ≤ tl := hc.hi
  refine ⟨hs.congr (fun i hi => ?_), fun j hj hj2 => ?_, fun v hv => ?_, ?_, fun u hu j hj hj2 => ?_⟩
  · have := h0 i hi
    simp only [vint]
    rw [Int.toNat_of_nonneg this]
  · have hjt : j < tl := by have := h0 n (by omega); omega
    obtain ⟨tb, e, hr⟩ := ht (by omega)
    refine ⟨tb, e, ?_⟩
    rw [hr.cell hjt]
    have hjl : sf 0 ≤ j := by have := h0 0 (by omega); omega
    have hjh : (j : Int) < sf (n + 1 - 1) := by show (j : Int) < sf n; have := h0 n (by omega); omega
    have := (hc.edge j hjl hjh).1
    rw [Int.toNat_of_nonneg this]
  · have := hc.mono v (by omega)
    have := h0 v (by omega)
    omega
  · have := h0 n (by omega)
    omega
  · have hjl : sf 0 ≤ j := by have h1 := h0 u (by omega); have h2 := hc.le (Nat.zero_le u) (show u < n + 1 by omega); omega
    have hjh : (j : Int) < sf (n + 1 - 1) := by
      show (j : Int) < sf n
      have h1 := h0 (u + 1) (by omega)
      have h2 := hc.le (show u + 1 ≤ n by omega) (show n < n + 1 by omega)
      omega
    have := hc.edge j hjl hjh
    omega

/-- The memory of the search: the marks and the queue. -/
structure BM (w4 : World) (M n : Nat) (mk : Nat → Int) (q : Nat → Nat) (wr : World) : Prop where
  m : Row wr M n (fun v => .int .i64 (mk v))
  q : Row wr (M + 1) n (fun i => vint (q i))
  b : Below w4.heap.size w4 wr
  hM : w4.heap.size ≤ M
namespace BM
variable {w4 : World} {M n : Nat} {mk : Nat → Int} {q : Nat → Nat} {wr : World}
theorem setM (h : BM w4 M n mk q wr) (v : Nat) (a : Int) : BM w4 M n (upd mk v a) q (wr.setCell ⟨M, v, none⟩ (.int .i64 a)) :=
  ⟨(h.m.set v _).congr (fun i _ => by unfold upd; split <;> rfl), h.q.setOther (by simp) _, h.b.setCell h.hM _, h.hM⟩
theorem setQ (h : BM w4 M n mk q wr) (i x : Nat) : BM w4 M n mk (upd q i x) (wr.setCell ⟨M + 1, i, none⟩ (.int .i64 (x : Int))) :=
  ⟨h.m.setOther (by simp) _, (h.q.set i _).congr (fun j _ => by unfold upd; split <;> simp_all [vint]), h.b.setCell (by have := h.hM; show w4.heap.size ≤ M + 1; omega) _, h.hM⟩
theorem drewN (h : BM w4 M n mk q wr) (k : Nat) : BM w4 M n mk q (wr.drewN k) := ⟨h.m, h.q, below_drewN h.b k, h.hM⟩
theorem start {w4 wr : World} (n : Nat) (hb : Below w4.heap.size w4 wr) : BM w4 wr.heap.size n (fun _ => 0) (fun _ => 0) ((wr.alloc (.cells (madeCells #[.int .i64 0] n) 3)).alloc (.cells (madeCells #[.int .i64 0] n) 3)) := by
  have h2 := Row.made (wr.alloc (.cells (madeCells #[.int .i64 0] n) 3)) (.int .i64 0) n 3
  simp only [World.size_alloc] at h2
  exact ⟨(Row.made _ _ _ _).alloc _, h2, (hb.alloc hb.size _).alloc (by simp; have := hb.size; omega) _, hb.size⟩
end BM

section
variable {sa ta : Option Addr} {sl scap tl tcap : Nat} {sf tf : Nat → Int} {w : World}

set_option maxRecDepth 100000 in
set_option maxHeartbeats 2000000 in
theorem walkM (x : Int) (hs : Ints .i64 w sa sl sf) (ht : Ints .i32 w ta tl tf) :
    Calls Try.prog 4 #[.int .i64 x, .slice sa sl scap, .slice ta tl tcap] w fun e w' => e = .returned (.bool true) ∧ Below w.heap.size w w' := by
  refine calls_hide fun R' hR => ?_
  have hsb := hs.bd
  have htb := ht.bd
  have Hs : Hid _ := hs
  have Ht : Hid _ := ht
  clear hs ht
  go_enter Try.func4, Try.ntmps4
  go_wp2_with fail
  refine (c14 x hsb htb).mono ?_
  rintro e w1 ⟨⟨b, rfl⟩, rfl⟩
  cases b with
  | false =>
    go_wp2_with fail
    exact hR.out _ _ ⟨rfl, Below.refl _ _⟩
  | true =>
  by_cases h1 : 131072 < sl
  · go_wp2_with fail
    exact hR.out _ _ ⟨rfl, Below.refl _ _⟩
  by_cases h2 : 262144 < tl
  · go_wp2_with fail
    exact hR.out _ _ ⟨rfl, Below.refl _ _⟩
  by_cases h3 : 1048576 < 8 * sl + 4 * tl
  · go_wp2_with fail
    exact hR.out _ _ ⟨rfl, Below.refl _ _⟩
  go_wp2_with fail
  refine (c15 (by omega) (by omega) Hs.out Ht.out).mono ?_
  rintro e w2 ⟨⟨b, rfl, hb⟩, k1, rfl⟩
  cases b with
  | false =>
    go_wp2_with fail
    exact hR.out _ _ ⟨rfl, below_drewN (Below.refl _ _) _⟩
  | true =>
  have hc := hb rfl
  clear hb
  go_wp2_with fail
  refine (c16 hc (by omega) (by omega) (Hs.out.drewN k1)).mono ?_
  rintro e w2 ⟨⟨b, rfl⟩, k2, rfl⟩
  cases b with
  | false =>
    go_wp2_with fail
    exact hR.out _ _ ⟨rfl, below_drewN (Below.refl _ _) _⟩
  | true =>
  have hp := hc.pos
  obtain ⟨n, rfl⟩ : ∃ n, sl = n + 1 := ⟨sl - 1, by omega⟩
  have Hc : Hid _ := hc
  clear hc
  go_wp2_with fail
  refine (c17 (by omega) (by omega) (Hs.out.drewN (k1 + k2))).mono ?_
  rintro e w2 ⟨⟨rfl, hr1⟩, hb1⟩
  go_wp2_with fail
  refine (c18 (by omega) ((Ht.out.drewN (k1 + k2)).later hb1)).mono ?_
  rintro e w3 ⟨⟨ta', tcap', rfl, hr2⟩, hb2⟩
  have hRG : RG n _ ta' tl (fun v => (sf v).toNat) (fun j => (tf j).toNat) w3 := rg_of Hc.out (hr1.later hb2) (fun h0 => ⟨_, hr2 h0⟩)
  have HB3 : Hid _ := ((below_drewN (Below.refl w1.heap.size w1) (k1 + k2)).trans hb1).trans (hb2.mono hb1.size)
  clear hr1 hr2 hb1 hb2
  obtain ⟨start, tg, hRG⟩ : ∃ start tg, RG n w1.heap.size ta' tl start tg w3 := ⟨_, _, hRG⟩
  clear Hs Ht Hc
  go_wp2_with fail
  refine (c19 x (by omega) (by omega) hRG).mono ?_
  rintro e w4 ⟨⟨cb, comp, count, rfl, hcr, hres⟩, hb4⟩
  have hRG4 := hRG.later hb4
  have HB4 : Hid _ := HB3.out.trans (hb4.mono HB3.out.size)
  have hcn := hres.num
  have Hres : Hid _ := hres
  clear hRG hb4 HB3 hres
  have hmk40 := run_make_row' (P := Try.prog) 40 4 (.bool false) 1 Try.underlying40 info4 rfl .i64 .i64 count (by omega) (by omega)
  have hmk27 := run_make_row' (P := Try.prog) 27 3 (.int .i64 0) 8 Try.underlying27 info3 rfl .i64 .i64 n (by omega) (by omega)
  have hd0 : decide ((count : Int) < 0) = false := decide_eq_false (by omega)
  have hd1 : decide (n < count) = false := decide_eq_false (by omega)
  dsimp only
  go_wp2
  clear hd0 hd1
  go_loopw [11] (fun i wr => ∃ k : Nat, k ≤ n ∧ i = .int .i64 k ∧ Below w4.heap.size w4 wr ∧ ∃ us : Nat → Bool, Row wr w4.heap.size count (fun c => .bool (us c)) ∧ ∀ v, v < k → us (comp v).toNat = true) (fun i _ => n - (intOf i).toNat)
  case atStart => exact ⟨0, Nat.zero_le _, rfl, (Below.refl _ _).alloc (Nat.le_refl _) _, fun _ => false, Row.made _ _ _ _, fun v hv => by omega⟩
  case round =>
    obtain ⟨k, hk, rfl, hB, us, hus, huk⟩ := hrel
    by_cases hlt : k < n
    · have hb := Hres.out.bd k hlt
      obtain ⟨c, hcc⟩ : ∃ c : Nat, comp k = (c : Int) := ⟨(comp k).toNat, by omega⟩
      have ck := (hcr.later hB).cell hlt
      rw [hcc] at ck hb
      have d1 := hus.cell (i := c) (by omega)
      have d2 := hus.frozen c
      have HR : Hid (Below w4.heap.size w4 (wr.setCell ⟨w4.heap.size, c, none⟩ (.bool true)) ∧ ∃ us : Nat → Bool, Row (wr.setCell ⟨w4.heap.size, c, none⟩ (.bool true)) w4.heap.size count (fun c => .bool (us c)) ∧ ∀ v, v < k + 1 → us (comp v).toNat = true) := by
        refine ⟨hB.setCell (Nat.le_refl _) _, fun i => if i = c then true else us i, (hus.set c _).congr (fun i _ => by by_cases e : i = c <;> simp [e]), fun v hv => ?_⟩
        by_cases e : v = k
        · rw [e, hcc]; simp
        · have := huk v (by omega)
          by_cases e2 : (comp v).toNat = c
          · simp [e2]
          · simp only [e2, if_false]; exact this
      have hd0 : decide ((c : Int) < 0) = false := decide_eq_false (by omega)
      have hd1 : decide (count ≤ c) = false := decide_eq_false (by omega)
      clear hB hus huk hmk40 hmk27 hRG4 hcr hcc
      go_wp2
      go_roundw
      case rel => exact ⟨k + 1, by omega, by go_num, HR.out⟩
      case measure => simp [intOf]; omega
    · have HU : Hid (∀ c, c < count → us c = true) := by
        intro c hc
        obtain ⟨v, hv, e⟩ := Hres.out.used c hc
        have := huk v (by omega)
        rw [e] at this
        simpa using this
      have HB : Hid _ := hB
      have Hus : Hid _ := hus
      clear hB hus huk
      go_wp2
      go_loop [12] (fun i => ∃ c : Nat, c ≤ count ∧ i = .int .i64 c) (fun i => count - (intOf i).toNat)
      case atStart => exact ⟨0, Nat.zero_le _, rfl⟩
      case round =>
        obtain ⟨c, hc, rfl⟩ := hrel
        by_cases hlt2 : c < count
        · have d1 := Row.cell Hus.out hlt2
          rw [HU.out c hlt2] at d1
          clear hmk40 hmk27 hRG4 hcr
          go_wp2
          go_round
          case rel => exact ⟨c + 1, by omega, by go_num⟩
          case measure => simp [intOf]; omega
        · have HBM : Hid _ := BM.start n HB.out
          obtain ⟨M, hM⟩ : ∃ M, M = wr.heap.size := ⟨_, rfl⟩
          have hMM : w4.heap.size ≤ M := by rw [hM]; exact HB.out.size
          clear hmk40
          go_wp2
          rw [← hM] at HBM ⊢
          clear hM hmk27 HB Hus HU hlt hk hlt2 hc
          go_loopw [15] (fun i wr => ∃ u : Nat, u ≤ n ∧ i = .int .i64 u ∧ ∃ (mk : Nat → Int) (q : Nat → Nat), (∀ v, v < n → mk v ≤ u) ∧ BM w4 M n mk q wr) (fun i _ => n - (intOf i).toNat)
          case atStart => exact ⟨0, Nat.zero_le _, rfl, fun _ => 0, fun _ => 0, fun v _ => Int.le_refl _, HBM.out⟩
          case round =>
            clear HBM
            obtain ⟨u, hu, rfl, mk, q, hmk, hbm⟩ := hrel
            by_cases hun : u < n
            · have d1 := hbm.m.cell hun
              have d2 := hbm.m.frozen u
              have d3 := hbm.q.cell (i := 0) (by omega)
              have d4 := hbm.q.frozen 0
              have HB0 : Hid (Bfs n start tg u (upd mk u ((u : Int) + 1)) ((u : Int) + 1) (upd q 0 u) 0 1 ∧ (∀ v, v < n → upd mk u ((u : Int) + 1) v ≤ (u : Int) + 1)) := by
                refine ⟨bfs_start hun (fun v hv => by have := hmk v hv; omega), fun v hv => ?_⟩
                by_cases e : v = u
                · rw [e, upd_same]; omega
                · rw [upd_other _ _ _ e]; have := hmk v hv; omega
              have HM0 : Hid _ := (hbm.setM u ((u : Int) + 1)).setQ 0 u
              have hMl := hbm.m.lt
              clear hmk hbm
              go_wp2
              clear d1 d2 d3 d4
              go_loopw [17, 18] (fun h t wr => ∃ (head tail : Nat) (mk : Nat → Int) (q : Nat → Nat), h = .int .i64 head ∧ t = .int .i64 tail ∧ Bfs n start tg u mk ((u : Int) + 1) q head tail ∧ (∀ v, v < n → mk v ≤ (u : Int) + 1) ∧ BM w4 M n mk q wr) (fun h _ _ => n - (intOf h).toNat)
              case atStart => exact ⟨0, 1, _, _, rfl, rfl, HB0.out.1, HB0.out.2, HM0.out⟩
              case round =>
                clear HB0 HM0
                obtain ⟨head, tail, mk, q, rfl, rfl, hbf, hmk, hbm⟩ := hrel
                have hle := hbf.le
                have htn : tail ≤ n := by rw [hbf.num]; exact marked_le _ _ _
                by_cases hht : head < tail
                · obtain ⟨hx1, hx2, hx3⟩ := hbf.mem head hht
                  obtain ⟨x0, hx0⟩ : ∃ x0, x0 = q head := ⟨_, rfl⟩
                  rw [← hx0] at hx1 hx2 hx3
                  have e1 : wr.cell? ⟨M + 1, head, none⟩ = some (.int .i64 (x0 : Int)) := by rw [hx0]; exact hbm.q.cell (i := head) (by omega)
                  have hrg := hRG4.later hbm.b
                  have e2 : wr.cell? ⟨w1.heap.size, x0, none⟩ = some (.int .i64 (start x0 : Nat)) := hrg.s.cell (i := x0) (by omega)
                  have hsm := hrg.mono x0 hx1
                  have hhi := mono_le hrg.mono (show x0 + 1 ≤ n by omega) (Nat.le_refl n)
                  have hhi2 := hrg.hi
                  have HB1 : Hid _ := And.intro hbf (And.intro hmk hbm)
                  have Hx : Hid _ := And.intro hx0 hx3
                  clear hbf hmk hbm hrg hx2 hx3 hx0
                  go_wp2
                  clear e1 e2
                  go_loopw [18, 20] (fun t i wr => ∃ (tail j : Nat) (mk : Nat → Int) (q : Nat → Nat), t = .int .i64 tail ∧ i = .int .i64 j ∧ Bfs n start tg u mk ((u : Int) + 1) q head tail ∧ head < tail ∧ q head = x0 ∧ start x0 ≤ j ∧ j ≤ start (x0 + 1) ∧ (∀ j', start x0 ≤ j' → j' < j → mk (tg j') = (u : Int) + 1) ∧ (∀ v, v < n → mk v ≤ (u : Int) + 1) ∧ BM w4 M n mk q wr) (fun _ i _ => start (x0 + 1) - (intOf i).toNat)
                  case atStart => exact ⟨tail, start x0, mk, q, rfl, rfl, HB1.out.1, hht, Hx.out.1.symm, Nat.le_refl _, hsm, fun j' h1 h2 => by omega, HB1.out.2.1, HB1.out.2.2⟩
                  case round =>
                    clear HB1
                    obtain ⟨tail, j, mk, q, rfl, rfl, hbf, hht2, hqx, hj1, hj2, hjd, hmk, hbm⟩ := hrel
                    have htn2 : tail ≤ n := by rw [hbf.num]; exact marked_le _ _ _
                    have hrg := hRG4.later hbm.b
                    have e2 : wr.cell? ⟨w1.heap.size, x0 + 1, none⟩ = some (.int .i64 (start (x0 + 1) : Nat)) := hrg.s.cell (i := x0 + 1) (by omega)
                    by_cases hjt : j < start (x0 + 1)
                    · have hlo := mono_le hrg.mono (Nat.zero_le x0) (show x0 ≤ n by omega)
                      obtain ⟨tb, e, ct⟩ := hrg.t j (by omega) (by omega)
                      subst e
                      obtain ⟨y, hy⟩ : ∃ y, y = tg j := ⟨_, rfl⟩
                      have hyn : y < n := by rw [hy]; exact hrg.edge x0 hx1 j hj1 hjt
                      rw [← hy] at ct
                      have cm := hbm.m.cell hyn
                      have fm := hbm.m.frozen y
                      have hMl := hbm.m.lt
                      by_cases hmy : mk y = (u : Int) + 1
                      · have hd : (mk y != (u : Int) + 1) = false := by simp [hmy]
                        have HR : Hid (∀ j', start x0 ≤ j' → j' < j + 1 → mk (tg j') = (u : Int) + 1) := by
                          intro j' h1 h2
                          by_cases e : j' = j
                          · rw [e, ← hy]; exact hmy
                          · exact hjd j' h1 (by omega)
                        have HB1 : Hid _ := And.intro hbf (And.intro hqx (And.intro hmk hbm))
                        clear hbf hjd hmk hbm hrg hqx hy hmy
                        go_wp2
                        go_roundw
                        case rel => exact ⟨tail, j + 1, mk, q, rfl, by go_num, HB1.out.1, hht2, HB1.out.2.1, by omega, by omega, HR.out, HB1.out.2.2.1, HB1.out.2.2.2⟩
                        case measure => simp [intOf]; omega
                      · have hd : (mk y != (u : Int) + 1) = true := by simpa using hmy
                        have htl : tail < n := by rw [hbf.num]; exact marked_lt hyn hmy
                        have cq := hbm.q.cell htl
                        have fq := hbm.q.frozen tail
                        have HB1 : Hid _ := bfs_push hbf hyn hmy (Hx.out.2.tail ⟨j, hj1, hjt, hy.symm⟩)
                        have HR : Hid (∀ j', start x0 ≤ j' → j' < j + 1 → upd mk y ((u : Int) + 1) (tg j') = (u : Int) + 1) := by
                          intro j' h1 h2
                          by_cases e : tg j' = y
                          · rw [e, upd_same]
                          · rw [upd_other _ _ _ e]
                            exact hjd j' h1 (by
                              rcases Nat.lt_or_ge j' j with h | h
                              · exact h
                              · exfalso; apply e; rw [hy]; congr 1; omega)
                        have HQ : Hid (upd q tail y head = x0) := by rw [show upd q tail y head = q head from upd_other _ _ _ (by omega)]; exact hqx
                        have HMk : Hid (∀ v, v < n → upd mk y ((u : Int) + 1) v ≤ (u : Int) + 1) := by
                          intro v hv
                          by_cases e : v = y
                          · rw [e, upd_same]; omega
                          · rw [upd_other _ _ _ e]; exact hmk v hv
                        have HBM : Hid _ := (hbm.setM y ((u : Int) + 1)).setQ tail y
                        clear hbf hjd hmk hbm hrg hqx hy hmy
                        go_wp2
                        go_roundw
                        case rel => exact ⟨tail + 1, j + 1, _, _, by go_num, by go_num, HB1.out, by omega, HQ.out, by omega, by omega, HR.out, HMk.out, HBM.out⟩
                        case measure => simp [intOf]; omega
                    · have HB1 : Hid _ := bfs_next hbf hht2 (fun j' h1 h2 => hjd j' (by rw [hqx] at h1; exact h1) (by rw [hqx] at h2; omega))
                      have HB2 : Hid _ := And.intro hmk hbm
                      have hnn := hbf.le
                      clear hbf hjd hmk hbm hrg hqx
                      go_wp2
                      go_roundw
                      case rel => exact ⟨head + 1, tail, mk, q, by go_num, rfl, HB1.out, HB2.out.1, HB2.out.2⟩
                      case measure => simp [intOf]; omega
                · obtain rfl : head = tail := by omega
                  have HE : Hid (∀ v, v < n → (mk v = (u : Int) + 1 ↔ Reach (Adj start tg) u v)) := fun v hv => bfs_end hbf hun hRG4.edge hv
                  have HB1 : Hid _ := And.intro hmk hbm
                  clear hbf hmk hbm hht hle htn
                  go_wp2
                  go_loopw [22] (fun i wr => ∃ v : Nat, v ≤ n ∧ i = .int .i64 v ∧ BM w4 M n mk q wr) (fun i _ => n - (intOf i).toNat)
                  case atStart => exact ⟨0, Nat.zero_le _, rfl, HB1.out.2⟩
                  case round =>
                    obtain ⟨v, hv, rfl, hbm⟩ := hrel
                    by_cases hvn : v < n
                    · have cm := hbm.m.cell hvn
                      have cv := (hcr.later hbm.b).cell hvn
                      have cu := (hcr.later hbm.b).cell hun
                      have q1 : (v : Int) < (n : Int) := by omega
                      have q2 : (u : Int) < (n : Int) := by omega
                      have HBM : Hid _ := hbm
                      by_cases hmv : mk v = (u : Int) + 1
                      · have hd : (mk v == (u : Int) + 1) = true := by simp [hmv]
                        have hle2 := (Hres.out.reach_le hRG4.edge hun ((HE.out v hvn).1 hmv)).2
                        have hd2 : decide (comp u < comp v) = false := decide_eq_false (by omega)
                        clear hbm hmv
                        go_wp2
                        go_quiet (fail)
                        go_wp2
                        go_quiet (fail)
                        go_wp2
                        go_roundw
                        case rel => exact ⟨v + 1, by omega, by go_num, HBM.out.drewN _⟩
                        case measure => simp [intOf]; omega
                      · have hd : (mk v == (u : Int) + 1) = false := by simpa using hmv
                        have hd2 : (comp v == comp u) = false := by
                          simp only [beq_eq_false_iff_ne, ne_eq]
                          intro e
                          exact hmv ((HE.out v hvn).2 (Hres.out.same u v hun hvn e.symm))
                        clear hbm hmv
                        go_wp2
                        go_quiet (fail)
                        go_wp2
                        go_quiet (fail)
                        go_wp2
                        go_roundw
                        case rel => exact ⟨v + 1, by omega, by go_num, HBM.out.drewN _⟩
                        case measure => simp [intOf]; omega
                    · have HBM : Hid _ := hbm
                      clear hbm
                      go_wp2
                      go_roundw
                      case rel => exact ⟨u + 1, by omega, by go_num, mk, q, HB1.out.1, HBM.out⟩
                      case measure => simp [intOf]; omega
            · have HBM : Hid _ := hbm
              clear hbm hmk
              go_wp2
              exact hR.out _ _ ⟨rfl, HB4.out.trans (HBM.out.b.mono HB4.out.size)⟩
end
end Go.Proofs.Qxb6601391a.TJ
