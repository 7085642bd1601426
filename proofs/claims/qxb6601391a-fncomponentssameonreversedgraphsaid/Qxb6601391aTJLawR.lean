import Derived.Test.Qxb6601391aTJRevM
namespace Go.Proofs.Qxb6601391a.TJ
open Go.RowKit Go.Proofs.Qxb6601391a.NG
section
variable {sa ta : Option Addr} {sl scap tl tcap : Nat} {sf tf : Nat → Int} {w : World}

set_option maxRecDepth 100000 in
set_option maxHeartbeats 8000000 in
theorem walkR (x : Int) (hs : Ints .i64 w sa sl sf) (ht : Ints .i32 w ta tl tf) :
    Calls Try.prog 5 #[.int .i64 x, .slice sa sl scap, .slice ta tl tcap] w fun e w' => e = .returned (.bool true) ∧ Below w.heap.size w w' := by
  refine calls_hide fun R' hR => ?_
  have hsb := hs.bd
  have htb := ht.bd
  have Hs : Hid _ := hs
  have Ht : Hid _ := ht
  clear hs ht
  go_enter Try.func5, Try.ntmps5
  go_wp2_with fail
  refine (c20 x hsb htb).mono ?_
  rintro e w1 ⟨⟨b, rfl⟩, rfl⟩
  cases b with
  | false =>
    go_wp2_with fail
    exact hR.out _ _ ⟨rfl, Below.refl _ _⟩
  | true =>
  by_cases h1 : 131072 < sl
  · go_wp2_with fail
    exact hR.out _ _ ⟨rfl, Below.refl _ _⟩
  by_cases h2 : 262144 < tl
  · go_wp2_with fail
    exact hR.out _ _ ⟨rfl, Below.refl _ _⟩
  by_cases h3 : 1048576 < 8 * sl + 4 * tl
  · go_wp2_with fail
    exact hR.out _ _ ⟨rfl, Below.refl _ _⟩
  go_wp2_with fail
  refine (c15 (by omega) (by omega) Hs.out Ht.out).mono ?_
  rintro e w2 ⟨⟨b, rfl, hb⟩, k1, rfl⟩
  cases b with
  | false =>
    go_wp2_with fail
    exact hR.out _ _ ⟨rfl, below_drewN (Below.refl _ _) _⟩
  | true =>
  have hc := hb rfl
  clear hb
  have hp := hc.pos
  obtain ⟨n, rfl⟩ : ∃ n, sl = n + 1 := ⟨sl - 1, by omega⟩
  have Hc : Hid _ := hc
  clear hc
  go_wp2_with fail
  refine (c17 (by omega) (by omega) (Hs.out.drewN k1)).mono ?_
  rintro e w2 ⟨⟨rfl, hr1⟩, hb1⟩
  go_wp2_with fail
  refine (c18 (by omega) ((Ht.out.drewN k1).later hb1)).mono ?_
  rintro e w3 ⟨⟨ta', tcap', rfl, hr2⟩, hb2⟩
  have hRG : RG n _ ta' tl (fun v => (sf v).toNat) (fun j => (tf j).toNat) w3 := rg_ofR Hc.out (hr1.later hb2) (fun h0 => ⟨_, hr2 h0⟩)
  have HB3 : Hid _ := ((below_drewN (Below.refl w1.heap.size w1) k1).trans hb1).trans (hb2.mono hb1.size)
  clear hr1 hr2 hb1 hb2
  obtain ⟨start, tg, hRG⟩ : ∃ start tg, RG n w1.heap.size ta' tl start tg w3 := ⟨_, _, hRG⟩
  clear Hs Ht Hc
  have hmono := hRG.mono
  have h0n := mono_le hmono (Nat.zero_le n) (Nat.le_refl n)
  have hnt := hRG.hi
  obtain ⟨m, hm⟩ : ∃ m, m = start n - start 0 := ⟨_, rfl⟩
  have hmb : m ≤ tl := by omega
  have Hm : Hid _ := hm
  clear hm
  have hmk1 := run_make_row' (P := Try.prog) 27 3 (.int .i64 0) 8 Try.underlying27 info3 rfl .i64 .i64 (n + 1) (by omega) (by omega)
  rw [show ((n + 1 : Nat) : Int) = (n : Int) + 1 by omega] at hmk1
  have l0 : w3.cell? ⟨w1.heap.size, 0, none⟩ = some (.int .i64 (start 0 : Nat)) := hRG.s.cell (i := 0) (by omega)
  have ln : w3.cell? ⟨w1.heap.size, n, none⟩ = some (.int .i64 (start n : Nat)) := hRG.s.cell (i := n) (by omega)
  have Hmono : Hid _ := hmono
  clear hmono
  go_wp2
  clear hmk1 l0 ln
  go_loopw [11] (fun i wr => ∃ j : Nat, start 0 ≤ j ∧ j ≤ start n ∧ i = .int .i64 j ∧ Below w3.heap.size w3 wr ∧ Row wr w3.heap.size (n + 1) (fun v => vint (rhist (redges start tg n (j - start 0)) v))) (fun i _ => start n - (intOf i).toNat)
  case atStart =>
    refine ⟨start 0, Nat.le_refl _, h0n, rfl, (Below.refl _ _).alloc (Nat.le_refl _) _, (Row.made _ _ _ _).congr (fun i _ => ?_)⟩
    rw [Nat.sub_self, show redges start tg n 0 = [] from rfl, rhist_nil]
    rfl
  case round =>
    obtain ⟨j, hj1, hj2, rfl, hB, hrow⟩ := hrel
    by_cases hjt : j < start n
    · obtain ⟨tb, e, ct⟩ := (hRG.later hB).t j hj1 hjt
      subst e
      obtain ⟨v, hv1, hv2, hv3⟩ := src_ex hj1 hjt
      obtain ⟨y, hy⟩ : ∃ y, y = tg j := ⟨_, rfl⟩
      have hyn : y < n := by rw [hy]; exact hRG.edge v hv1 j hv2 hv3
      rw [← hy] at ct
      obtain ⟨a, ha⟩ : ∃ a, a = rhist (redges start tg n (j - start 0)) (y + 1) := ⟨_, rfl⟩
      have hab : a ≤ 262144 := by
        have := rhist_bd (redges start tg n (j - start 0)) (y + 1)
        rw [redges_len, ← ha] at this
        omega
      have d1 : wr.cell? ⟨w3.heap.size, y + 1, none⟩ = some (.int .i64 (a : Int)) := by rw [ha]; exact hrow.cell (i := y + 1) (by omega)
      have d2 := hrow.frozen (y + 1)
      have HR : Hid (Below w3.heap.size w3 (wr.setCell ⟨w3.heap.size, y + 1, none⟩ (.int .i64 ((a : Int) + 1))) ∧ Row (wr.setCell ⟨w3.heap.size, y + 1, none⟩ (.int .i64 ((a : Int) + 1))) w3.heap.size (n + 1) (fun v => vint (rhist (redges start tg n (j + 1 - start 0)) v))) := by
        refine ⟨hB.setCell (Nat.le_refl _) _, (hrow.set (y + 1) _).congr (fun i _ => ?_)⟩
        rw [show j + 1 - start 0 = (j - start 0) + 1 by omega, redges_succ, show start 0 + (j - start 0) = j by omega, ← hy, rhist_snoc, ← ha]
        by_cases e : i = y + 1
        · rw [if_pos e, if_pos e]; simp [vint]
        · rw [if_neg e, if_neg e]
      clear hB hrow hy ha hv1 hv2 hv3
      have Hrg : Hid _ := hRG
      clear hRG
      go_wp2
      go_roundw
      case rel => exact ⟨j + 1, by omega, by omega, by go_num, HR.out⟩
      case measure => simp [intOf]; omega
    · obtain rfl : j = start n := by omega
      rw [← Hm.out] at hrow
      obtain ⟨es, hes⟩ : ∃ es, es = redges start tg n m := ⟨_, rfl⟩
      rw [← hes] at hrow
      have hel : es.length = m := by rw [hes, redges_len]
      have HP0 : Hid (Below w3.heap.size w3 wr ∧ Row wr w3.heap.size (n + 1) (fun v => vint (rsums es 0 v))) := by
        refine ⟨hB, hrow.congr (fun i _ => ?_)⟩
        rw [rsums_zero]
        intro e he
        rw [hes] at he
        obtain ⟨k, hk, rfl⟩ := redges_mem he
        exact Int.natCast_nonneg _
      have Hes : Hid _ := hes
      have Hrg : Hid _ := hRG
      clear hB hrow hes hRG
      go_wp2
      go_loopw [12] (fun i wr => ∃ v : Nat, v ≤ n ∧ i = .int .i64 v ∧ Below w3.heap.size w3 wr ∧ Row wr w3.heap.size (n + 1) (fun i => vint (rsums es v i))) (fun i _ => n - (intOf i).toNat)
      case atStart => exact ⟨0, Nat.zero_le _, rfl, HP0.out.1, HP0.out.2⟩
      case round =>
        clear HP0
        obtain ⟨v, hv, rfl, hB, hrow⟩ := hrel
        by_cases hvn : v < n
        · obtain ⟨a, ha⟩ : ∃ a, a = rsums es v (v + 1) := ⟨_, rfl⟩
          obtain ⟨b, hb⟩ : ∃ b, b = rsums es v v := ⟨_, rfl⟩
          have hab := rsums_bd es v (v + 1)
          have hbb := rsums_bd es v v
          rw [← ha, hel] at hab
          rw [← hb, hel] at hbb
          have d1 : wr.cell? ⟨w3.heap.size, v + 1, none⟩ = some (.int .i64 (a : Int)) := by rw [ha]; exact hrow.cell (i := v + 1) (by omega)
          have d2 : wr.cell? ⟨w3.heap.size, v, none⟩ = some (.int .i64 (b : Int)) := by rw [hb]; exact hrow.cell (i := v) (by omega)
          have d3 := hrow.frozen (v + 1)
          have HR : Hid (Below w3.heap.size w3 (wr.setCell ⟨w3.heap.size, v + 1, none⟩ (.int .i64 ((a : Int) + (b : Int)))) ∧ Row (wr.setCell ⟨w3.heap.size, v + 1, none⟩ (.int .i64 ((a : Int) + (b : Int)))) w3.heap.size (n + 1) (fun i => vint (rsums es (v + 1) i))) := by
            refine ⟨hB.setCell (Nat.le_refl _) _, (hrow.set (v + 1) _).congr (fun i _ => ?_)⟩
            rw [rsums_step, ← ha, ← hb]
            by_cases e : i = v + 1
            · rw [if_pos e, if_pos e]; simp [vint]
            · rw [if_neg e, if_neg e]
          clear hB hrow ha hb
          go_wp2
          go_region
          all_goals go_wp2
          go_roundw
          case rel => exact ⟨v + 1, by omega, by go_num, HR.out.1.drew, HR.out.2.drew⟩
          case measure => simp [intOf]; omega
        · obtain rfl : v = n := by omega
          have HRM : Hid _ := RM.start v m hB (hrow.congr (fun i hi => by rw [rsums_top es (show i ≤ v by omega)]))
          obtain ⟨P, hP⟩ : ∃ P, P = wr.heap.size := ⟨_, rfl⟩
          have hPw : w3.heap.size < P := by rw [hP]; exact hrow.lt
          have hmk2 := run_make_row' (P := Try.prog) 28 21 (.int .i32 0) 4 Try.underlying28 info21 rfl .i64 .i64 m (by omega) (by omega)
          rw [show (m : Int) = (start v : Int) - (start 0 : Int) by have := Hm.out; omega] at hmk2
          have hmk3 := run_make_row' (P := Try.prog) 27 3 (.int .i64 0) 8 Try.underlying27 info3 rfl .i64 .i64 v (by omega) (by omega)
          clear hB hrow
          go_wp2
          rw [← hP] at HRM ⊢
          clear hP hmk2 hmk3
          go_loopw [15] (fun i wr => ∃ u : Nat, u ≤ v ∧ i = .int .i64 u ∧ ∃ ps : Nat → Nat, (∀ i, i < u → ps i = lowc es (i : Int)) ∧ RM w3 P v m (fun i => lowc es (i : Int)) ps (fun _ => 0) wr) (fun i _ => v - (intOf i).toNat)
          case atStart => exact ⟨0, Nat.zero_le _, rfl, fun _ => 0, fun i hi => by omega, HRM.out⟩
          case round =>
            clear HRM
            obtain ⟨u, hu, rfl, ps, hps, hrm⟩ := hrel
            by_cases huv : u < v
            · obtain ⟨a, ha⟩ : ∃ a, a = lowc es (u : Int) := ⟨_, rfl⟩
              have d1 : wr.cell? ⟨w3.heap.size, u, none⟩ = some (.int .i64 (a : Int)) := by rw [ha]; exact hrm.r.cell (i := u) (by omega)
              have d2 := hrm.p.cell huv
              have d3 := hrm.p.frozen u
              have HR : Hid (∃ ps' : Nat → Nat, (∀ i, i < u + 1 → ps' i = lowc es (i : Int)) ∧ RM w3 P v m (fun i => lowc es (i : Int)) ps' (fun _ => 0) (wr.setCell ⟨P + 1, u, none⟩ (.int .i64 (a : Int)))) := by
                refine ⟨upd ps u a, fun i hi => ?_, hrm.setP u a⟩
                by_cases e : i = u
                · rw [e, upd_same, ha]
                · rw [upd_other _ _ _ e]; exact hps i (by omega)
              clear hps hrm ha
              go_wp2
              go_roundw
              case rel => exact ⟨u + 1, by omega, by go_num, HR.out⟩
              case measure => simp [intOf]; omega
            · obtain rfl : u = v := by omega
              have HP : Hid (∃ (ps : Nat → Nat) (t : Nat → Int), RM w3 P u m (fun i => lowc es (i : Int)) ps t wr ∧ (∀ i, i < u → ps i = lowc es (i : Int) + cnt (redges start tg u (start 0 - start 0)) (i : Int)) ∧ Filled es (redges start tg u (start 0 - start 0)) t) := by
                rw [Nat.sub_self, show redges start tg u 0 = [] from rfl]
                exact ⟨ps, _, hrm, fun i hi => by rw [cnt_nil, hps i hi]; rfl, filled_nil _ _⟩
              clear hps hrm
              go_wp2
              go_loopw [16] (fun i wr => ∃ v : Nat, v ≤ u ∧ i = .int .i64 v ∧ ∃ (ps : Nat → Nat) (t : Nat → Int), RM w3 P u m (fun i => lowc es (i : Int)) ps t wr ∧ (∀ i, i < u → ps i = lowc es (i : Int) + cnt (redges start tg u (start v - start 0)) (i : Int)) ∧ Filled es (redges start tg u (start v - start 0)) t) (fun i _ => u - (intOf i).toNat)
              case atStart => exact ⟨0, Nat.zero_le _, rfl, HP.out⟩
              case round =>
                clear HP
                obtain ⟨v, hvu, rfl, HP⟩ := hrel
                have HP : Hid _ := HP
                by_cases hlt : v < u
                · have hB : Below w3.heap.size w3 wr := by obtain ⟨_, _, h, _⟩ := HP.out; exact h.b
                  have d1 : wr.cell? ⟨w1.heap.size, v, none⟩ = some (.int .i64 (start v : Nat)) := (Hrg.out.later hB).s.cell (i := v) (by omega)
                  have hs1 := mono_le Hmono.out (Nat.zero_le v) (show v ≤ u by omega)
                  have hs2 := Hmono.out v hlt
                  have hs3 := mono_le Hmono.out (show v + 1 ≤ u by omega) (Nat.le_refl u)
                  clear hB
                  go_wp2
                  clear d1
                  go_loopw [17] (fun i wr => ∃ j : Nat, start v ≤ j ∧ j ≤ start (v + 1) ∧ i = .int .i64 j ∧ ∃ (ps : Nat → Nat) (t : Nat → Int), RM w3 P u m (fun i => lowc es (i : Int)) ps t wr ∧ (∀ i, i < u → ps i = lowc es (i : Int) + cnt (redges start tg u (j - start 0)) (i : Int)) ∧ Filled es (redges start tg u (j - start 0)) t) (fun i _ => start (v + 1) - (intOf i).toNat)
                  case atStart => exact ⟨start v, Nat.le_refl _, hs2, rfl, HP.out⟩
                  case round =>
                    clear HP
                    obtain ⟨j, hj1, hj2, rfl, ps, t, hrm, hps, hf⟩ := hrel
                    have d1 : wr.cell? ⟨w1.heap.size, v + 1, none⟩ = some (.int .i64 (start (v + 1) : Nat)) := (Hrg.out.later hrm.b).s.cell (i := v + 1) (by omega)
                    by_cases hjt : j < start (v + 1)
                    · obtain ⟨tb, e, ct⟩ := (Hrg.out.later hrm.b).t j (by omega) (by omega)
                      subst e
                      have hsrc := src_eq Hmono.out hlt hj1 hjt
                      obtain ⟨r, hr⟩ := redges_split (start := start) (tg := tg) (n := u) (k := j - start 0) (m := m) (by have := Hm.out; omega)
                      rw [show start 0 + (j - start 0) = j by omega, hsrc, ← Hes.out] at hr
                      obtain ⟨y, hy⟩ : ∃ y, y = tg j := ⟨_, rfl⟩
                      have hyn : y < u := by rw [hy]; exact Hrg.out.edge v hlt j hj1 hjt
                      rw [← hy] at ct hr
                      obtain ⟨p, hp⟩ : ∃ p, p = ps y := ⟨_, rfl⟩
                      have hpm : p < m := by
                        have := pos_lt_length hr
                        have e : pos es (redges start tg u (j - start 0)) ((y : Int), (v : Int)) = p := by unfold pos; rw [hp, hps y hyn]
                        rw [e, hel] at this
                        exact this
                      have c1 : wr.cell? ⟨P + 1, y, none⟩ = some (.int .i64 (p : Int)) := by rw [hp]; exact hrm.p.cell hyn
                      have c2 := hrm.p.frozen y
                      have c3 := hrm.t.cell hpm
                      have c4 := hrm.t.frozen p
                      have c5 := hrm.p.lt
                      have c6 := hrm.t.lt
                      have HR : Hid (∃ (ps' : Nat → Nat) (t' : Nat → Int), RM w3 P u m (fun i => lowc es (i : Int)) ps' t' ((wr.setCell ⟨P, p, none⟩ (.int .i32 (v : Int))).setCell ⟨P + 1, y, none⟩ (.int .i64 ((p : Int) + 1))) ∧ (∀ i, i < u → ps' i = lowc es (i : Int) + cnt (redges start tg u (j + 1 - start 0)) (i : Int)) ∧ Filled es (redges start tg u (j + 1 - start 0)) t') := by
                        have e2 : redges start tg u (j + 1 - start 0) = redges start tg u (j - start 0) ++ [((y : Int), (v : Int))] := by
                          rw [show j + 1 - start 0 = (j - start 0) + 1 by omega, redges_succ, show start 0 + (j - start 0) = j by omega, hsrc, hy]
                        rw [e2]
                        exact rm_place hrm hps hf hyn hr hp
                      clear hrm hps hf hsrc hr hy hp
                      go_wp2
                      go_roundw
                      case rel => exact ⟨j + 1, by omega, by omega, by go_num, HR.out⟩
                      case measure => simp [intOf]; omega
                    · obtain rfl : j = start (v + 1) := by omega
                      have HP : Hid _ := And.intro hrm (And.intro hps hf)
                      clear hrm hps hf
                      go_wp2
                      go_roundw
                      case rel => exact ⟨v + 1, by omega, by go_num, ps, t, HP.out.1, HP.out.2⟩
                      case measure => simp [intOf]; omega
                · obtain rfl : v = u := by omega
                  obtain ⟨ps, t, hrm, _, hf⟩ := HP.out
                  rw [← Hm.out] at hf
                  have hrg1 := Hrg.out.later hrm.b
                  have HB4 : Hid _ := HB3.out.trans (hrm.b.mono HB3.out.size)
                  rw [Hes.out] at hrm hf
                  obtain ⟨rs, rt, hrg2, htu⟩ := rm_rg Hmono.out h0n Hm.out Hrg.out.edge hrm hf
                  have Hedge : Hid _ := Hrg.out.edge
                  have Htu : Hid _ := htu
                  clear hrm hf HP HB3 Hrg hlt htu hel
                  clear Hes
                  go_wp2_with fail
                  refine (c19 x (by omega) (by omega) hrg1).mono ?_
                  rintro e w4 ⟨⟨cb1, comp1, count1, rfl, hcr1, hres1⟩, hb4⟩
                  have hrg2' := hrg2.later hb4
                  have HB5 : Hid _ := HB4.out.trans (hb4.mono HB4.out.size)
                  clear hrg2 hrg1 HB4 hb4
                  go_wp2_with fail
                  refine (c19 x (by omega) (by omega) hrg2').mono ?_
                  rintro e w5 ⟨⟨cb2, comp2, count2, rfl, hcr2, hres2⟩, hb5⟩
                  have hcr1' := hcr1.later hb5
                  have HB6 : Hid _ := HB5.out.trans (hb5.mono HB5.out.size)
                  have Hpart : Hid (∀ a b, a < v → b < v → (comp1 a = comp1 b ↔ comp2 a = comp2 b)) := fun a b ha hb => part_eq hres1 hres2 Htu.out Hedge.out ha hb
                  obtain rfl : count1 = count2 := by
                    have q1 := count_le hres1.used hres2.bd (fun a b ha hb e => (Hpart.out a b ha hb).2 e)
                    have q2 := count_le hres2.used hres1.bd (fun a b ha hb e => (Hpart.out a b ha hb).1 e)
                    omega
                  have hcn := hres1.num
                  have Hb1 : Hid _ := hres1.bd
                  have Hb2 : Hid _ := hres2.bd
                  clear hcr1 hres1 hres2 hrg2' HB5 hb5 Hedge Htu Hmono
                  have hmk4 := run_make_row' (P := Try.prog) 27 3 (.int .i64 0) 8 Try.underlying27 info3 rfl .i64 .i64 count1 (by omega) (by omega)
                  have hd0 : decide ((count1 : Int) < 0) = false := decide_eq_false (by omega)
                  have hd1 : decide (v < count1) = false := decide_eq_false (by omega)
                  have HMM : Hid _ := MM.start count1 (Below.refl w5.heap.size w5)
                  obtain ⟨X, hX⟩ : ∃ X, X = w5.heap.size := ⟨_, rfl⟩
                  dsimp only
                  go_wp2
                  rw [← hX] at HMM ⊢
                  clear hX hd0 hd1 hmk4
                  go_loopw [25] (fun i wr => ∃ k : Nat, k ≤ count1 ∧ i = .int .i64 k ∧ ∃ f g : Nat → Int, (∀ a, a < k → f a = -1) ∧ (∀ a, a < k → g a = -1) ∧ MM w5 X count1 f g wr) (fun i _ => count1 - (intOf i).toNat)
                  case atStart => exact ⟨0, Nat.zero_le _, rfl, fun _ => 0, fun _ => 0, fun a ha => by omega, fun a ha => by omega, HMM.out⟩
                  case round =>
                    clear HMM
                    obtain ⟨k, hk, rfl, f, g, hf, hg, hmm⟩ := hrel
                    by_cases hkc : k < count1
                    · have d1 := hmm.m.cell hkc
                      have d2 := hmm.m.frozen k
                      have d3 := hmm.q.cell hkc
                      have d4 := hmm.q.frozen k
                      have d5 := hmm.m.lt
                      have d6 := hmm.q.lt
                      have HR : Hid (∃ f g : Nat → Int, (∀ a, a < k + 1 → f a = -1) ∧ (∀ a, a < k + 1 → g a = -1) ∧ MM w5 X count1 f g ((wr.setCell ⟨X, k, none⟩ (.int .i64 (-1))).setCell ⟨X + 1, k, none⟩ (.int .i64 (-1)))) := by
                        refine ⟨upd f k (-1), upd g k (-1), fun a ha => ?_, fun a ha => ?_, (hmm.setF k (-1)).setG k (-1)⟩
                        · by_cases e : a = k
                          · rw [e, upd_same]
                          · rw [upd_other _ _ _ e]; exact hf a (by omega)
                        · by_cases e : a = k
                          · rw [e, upd_same]
                          · rw [upd_other _ _ _ e]; exact hg a (by omega)
                      clear hf hg hmm
                      go_wp2
                      go_roundw
                      case rel => exact ⟨k + 1, by omega, by go_num, HR.out⟩
                      case measure => simp [intOf]; omega
                    · obtain rfl : k = count1 := by omega
                      have HS : Hid (∃ f g : Nat → Int, Said 0 comp1 comp2 k f ∧ Said 0 comp2 comp1 k g ∧ MM w5 X k f g wr) := ⟨f, g, said_start hf, said_start hg, hmm⟩
                      clear hf hg hmm
                      go_wp2
                      go_loopw [26] (fun i wr => ∃ u : Nat, u ≤ v ∧ i = .int .i64 u ∧ ∃ f g : Nat → Int, Said u comp1 comp2 k f ∧ Said u comp2 comp1 k g ∧ MM w5 X k f g wr) (fun i _ => v - (intOf i).toNat)
                      case atStart => exact ⟨0, Nat.zero_le _, rfl, HS.out⟩
                      case round =>
                        clear HS
                        obtain ⟨u, hu, rfl, f, g, hf, hg, hmm⟩ := hrel
                        by_cases huv : u < v
                        · have b1 := Hb1.out u huv
                          have b2 := Hb2.out u huv
                          obtain ⟨a, ha⟩ : ∃ a : Nat, comp1 u = (a : Int) := ⟨(comp1 u).toNat, by omega⟩
                          obtain ⟨b, hb⟩ : ∃ b : Nat, comp2 u = (b : Int) := ⟨(comp2 u).toNat, by omega⟩
                          have d1 := (hcr1'.later hmm.b).cell huv
                          have d2 := (hcr2.later hmm.b).cell huv
                          rw [ha] at b1 d1
                          rw [hb] at b2 d2
                          have hak : a < k := by omega
                          have hbk : b < k := by omega
                          have e1 := hmm.m.cell hak
                          have e2 := hmm.m.frozen a
                          have e3 := hmm.q.cell hbk
                          have e4 := hmm.q.frozen b
                          have e5 := hmm.m.lt
                          have e6 := hmm.q.lt
                          have g0 : decide ((a : Int) < 0) = false := decide_eq_false (by omega)
                          have g1 : decide (k ≤ a) = false := decide_eq_false (by omega)
                          have g2 : decide ((b : Int) < 0) = false := decide_eq_false (by omega)
                          have g3 : decide (k ≤ b) = false := decide_eq_false (by omega)
                          by_cases hex : ∃ u0, u0 < u ∧ comp1 u0 = (a : Int)
                          · obtain ⟨u0, q1, q2⟩ := hex
                            have q3 : comp2 u0 = (b : Int) := by rw [← hb]; exact (Hpart.out u0 u (by omega) huv).1 (q2.trans ha.symm)
                            obtain ⟨u1, r1, r2, r3⟩ := said_get hf hak q1 q2
                            obtain ⟨u2, s1, s2, s3⟩ := said_get hg hbk q1 q3
                            have fa : f a = (b : Int) := by rw [r3, ← hb]; exact (Hpart.out u1 u (by omega) huv).1 (r2.trans ha.symm)
                            have gb : g b = (a : Int) := by rw [s3, ← ha]; exact (Hpart.out u2 u (by omega) huv).2 (s2.trans hb.symm)
                            rw [fa] at e1
                            rw [gb] at e3
                            have HR : Hid _ := And.intro (said_old hf q1 (q2.trans ha.symm)) (And.intro (said_old hg q1 (q3.trans hb.symm)) hmm)
                            clear hf hg hmm ha hb q2 q3 r2 r3 s2 s3 fa gb b1 b2
                            go_wp2
                            go_roundw
                            case rel => exact ⟨u + 1, by omega, by go_num, f, g, HR.out⟩
                            case measure => simp [intOf]; omega
                          · have hn1 : ∀ u0, u0 < u → comp1 u0 ≠ (a : Int) := fun u0 h0 e => hex ⟨u0, h0, e⟩
                            have hn2 : ∀ u0, u0 < u → comp2 u0 ≠ (b : Int) := fun u0 h0 e => hex ⟨u0, h0, by rw [← ha]; exact (Hpart.out u0 u (by omega) huv).2 (e.trans hb.symm)⟩
                            have fa := said_none hf hak hn1
                            have gb := said_none hg hbk hn2
                            rw [fa] at e1
                            rw [gb] at e3
                            have HR : Hid _ := And.intro (said_new hf ha hb) (And.intro (said_new hg hb ha) ((hmm.setF a (b : Int)).setG b (a : Int)))
                            clear hf hg hmm ha hb fa gb b1 b2 hn1 hn2 hex
                            go_wp2
                            go_roundw
                            case rel => exact ⟨u + 1, by omega, by go_num, _, _, HR.out⟩
                            case measure => simp [intOf]; omega
                        · have HB7 : Hid _ := HB6.out.trans (hmm.b.mono HB6.out.size)
                          clear hf hg hmm
                          go_wp2
                          exact hR.out _ _ ⟨rfl, HB7.out⟩
end
end Go.Proofs.Qxb6601391a.TJ
