import Derived.Test.Qxb6601391aTJVisit
namespace Go.Proofs.Qxb6601391a.TJ
open Go.RowKit Go.Proofs.Qxb6601391a.NG

section
variable {N gp n : Nat} {w : World} {x : Int} {sb scap : Nat} {tao : Option Addr} {tlen tcap : Nat} {start tg : Nat → Nat}

/-- 'g.len' -/
theorem c26 (hn : n ≤ 131072) (hg : GM N gp x n sb scap tao tlen tcap start tg w) :
    Calls Try.prog 26 #[.pointer (some ⟨gp, 0, none⟩)] w fun e w' => e = .returned (.int .i64 n) ∧ w' = w := by
  refine calls_hide fun R' hR => ?_
  have c1 : w.cell? ⟨gp, 1, none⟩ = some (.slice (some ⟨sb, 0, none⟩) (n + 1) scap) := hg.g.cell (i := 1) (by omega)
  go_enter Try.func26, Try.ntmps26
  go_wp2
  exact hR.out _ _ ⟨rfl, rfl⟩

theorem mono_le {n : Nat} {start : Nat → Nat} (h : ∀ v, v < n → start v ≤ start (v + 1)) {a b : Nat} (hab : a ≤ b) (hb : b ≤ n) : start a ≤ start b := by
  induction b with
  | zero => obtain rfl : a = 0 := by omega
            exact Nat.le_refl _
  | succ b ih =>
    by_cases e : a = b + 1
    · rw [e]; exact Nat.le_refl _
    · exact Nat.le_trans (ih (by omega) (by omega)) (h b (by omega))

/-- The top of the path, in memory. -/
theorem TM.top {N gp n : Nat} {idx low : Nat → Nat} {comp : Nat → Int} {reached : Nat} {sv pv : Value} {ss : List Nat} {f : Fr} {r : List Fr} {wr : World} (h : TM N gp n idx low comp reached sv pv ss (pth (f :: r)) wr) :
    ∃ g cap, pv = .slice (some ⟨g, 0, none⟩) (r.length + 1) cap ∧ N + 10 ≤ g ∧ g < wr.heap.size ∧ r.length + 1 ≤ cap ∧ wr.cell? ⟨g, r.length * 2, none⟩ = some (.int .i64 (f.v : Int)) ∧ wr.cell? ⟨g, r.length * 2 + 1, none⟩ = some (.int .i64 (f.e : Int)) ∧ wr.frozen? ⟨g, r.length * 2 + 1, none⟩ = false := by
  have hpo := h.po
  have hlen : (pth (f :: r)).length = r.length + 1 := by simp [pth, pth_len]
  rw [hlen] at hpo
  obtain ⟨g, cap, rfl, hb, hl⟩ := hpo.form (by omega)
  have hcap : r.length + 1 ≤ cap := by
    rcases hpo.2 with ⟨h1, _⟩ | ⟨g', cap', cur, h1, _, _, h2, _⟩
    · cases h1
    · cases h1; exact h2
  refine ⟨g, cap, rfl, hb, hl, hcap, ?_, ?_, hpo.frozenAt _⟩
  · rw [hpo.cellAt _ (by omega), pth, pcells_append, List.getElem?_append_right (by rw [pcells_len, pth_len]; omega), pcells_len, pth_len, Nat.sub_self]; rfl
  · rw [hpo.cellAt _ (by omega), pth, pcells_append, List.getElem?_append_right (by rw [pcells_len, pth_len]; omega), pcells_len, pth_len, show r.length * 2 + 1 - r.length * 2 = 1 by omega]; rfl

/-- The topmost frame's edge counter goes on. -/
theorem TM.adv {N gp n : Nat} {idx low : Nat → Nat} {comp : Nat → Int} {reached : Nat} {sv : Value} {ss : List Nat} {f : Fr} {r : List Fr} {wr : World} {g cap : Nat} (h : TM N gp n idx low comp reached sv (.slice (some ⟨g, 0, none⟩) (r.length + 1) cap) ss (pth (f :: r)) wr) :
    TM N gp n idx low comp reached sv (.slice (some ⟨g, 0, none⟩) (r.length + 1) cap) ss (pth (⟨f.v, f.e + 1, f.rest⟩ :: r)) (wr.setCell ⟨g, r.length * 2 + 1, none⟩ (.int .i64 ((f.e : Int) + 1))) := by
  have := TM.setEdge (ps := pth r) (v := f.v) (e := f.e) (e' := f.e + 1) (g := g) (cap := cap) (by rw [pth_len]; exact h)
  rw [pth_len] at this
  exact this

theorem TM.topAt {N gp n : Nat} {idx low : Nat → Nat} {comp : Nat → Int} {reached : Nat} {sv : Value} {ss : List Nat} {f : Fr} {r : List Fr} {wr : World} {g cap : Nat} (h : TM N gp n idx low comp reached sv (.slice (some ⟨g, 0, none⟩) (r.length + 1) cap) ss (pth (f :: r)) wr) :
    wr.cell? ⟨g, r.length * 2, none⟩ = some (.int .i64 (f.v : Int)) := by
  obtain ⟨g', cap', e, _, _, _, h1, _⟩ := h.top
  cases e
  exact h1

/-- An empty path, in memory. -/
theorem TM.bare {N gp n : Nat} {idx low : Nat → Nat} {comp : Nat → Int} {reached : Nat} {sv pv : Value} {ss : List Nat} {wr : World} (h : TM N gp n idx low comp reached sv pv ss (pth []) wr) :
    ∃ a cap, pv = .slice a 0 cap := by
  rcases h.po.2 with ⟨h1, _⟩ | ⟨g', cap', cur, h1, _⟩
  · exact ⟨none, 0, h1⟩
  · exact ⟨_, _, h1⟩

/-- The topmost frame is taken off the path. -/
theorem TM.pop {N gp n : Nat} {idx low : Nat → Nat} {comp : Nat → Int} {reached : Nat} {sv : Value} {ss : List Nat} {f : Fr} {r : List Fr} {wr : World} {g cap : Nat} (h : TM N gp n idx low comp reached sv (.slice (some ⟨g, 0, none⟩) (r.length + 1) cap) ss (pth (f :: r)) wr) :
    TM N gp n idx low comp reached sv (.slice (some ⟨g, 0, none⟩) r.length cap) ss (pth r) (wr.setCell ⟨N + 8, 0, none⟩ (.slice (some ⟨g, 0, none⟩) r.length cap)) := by
  refine h.setP ?_
  have hpo := h.po
  have hlen : (pth (f :: r)).length = r.length + 1 := by simp [pth, pth_len]
  rw [hlen, pth, pcells_append] at hpo
  rw [pth_len]
  exact owns_cut (by rw [pcells_len, pth_len]) hpo

/-- The stack is cut down. -/
theorem TM.cutS {N gp n : Nat} {idx low : Nat → Nat} {comp : Nat → Int} {reached : Nat} {pv : Value} {s1 s2 : List Nat} {ps : List (Nat × Nat)} {wr : World} {g cap : Nat} (h : TM N gp n idx low comp reached (.slice (some ⟨g, 0, none⟩) (s1 ++ s2).length cap) pv (s1 ++ s2) ps wr) :
    TM N gp n idx low comp reached (.slice (some ⟨g, 0, none⟩) s1.length cap) pv s1 ps (wr.setCell ⟨N + 7, 0, none⟩ (.slice (some ⟨g, 0, none⟩) s1.length cap)) := by
  refine h.setS ?_
  have hso := h.so
  rw [List.length_append, List.map_append] at hso
  exact owns_cut (by simp) hso

/-- The stack, in memory. -/
theorem TM.stack {N gp n : Nat} {idx low : Nat → Nat} {comp : Nat → Int} {reached : Nat} {sv pv : Value} {ss : List Nat} {ps : List (Nat × Nat)} {wr : World} (h : TM N gp n idx low comp reached sv pv ss ps wr) (hl : 0 < ss.length) :
    ∃ g cap, sv = .slice (some ⟨g, 0, none⟩) ss.length cap ∧ N + 10 ≤ g ∧ g < wr.heap.size ∧ ss.length ≤ cap ∧ ∀ k (hk : k < ss.length), wr.cell? ⟨g, k, none⟩ = some (.int .i64 (ss[k] : Int)) := by
  have hso := h.so
  obtain ⟨g, cap, rfl, hb, hlt⟩ := hso.form hl
  have hcap : ss.length ≤ cap := by
    rcases hso.2 with ⟨h1, _⟩ | ⟨g', cap', cur, h1, _, _, h2, _⟩
    · cases h1
    · cases h1; exact h2
  refine ⟨g, cap, rfl, hb, hlt, hcap, fun k hk => ?_⟩
  rw [hso.cellAt k (by omega)]
  simp [hk, vint]

theorem TM.stackAt {N gp n : Nat} {idx low : Nat → Nat} {comp : Nat → Int} {reached : Nat} {sv pv : Value} {ss : List Nat} {ps : List (Nat × Nat)} {wr : World} {g L cap : Nat} (h : TM N gp n idx low comp reached sv pv ss ps wr) (hsv : sv = .slice (some ⟨g, 0, none⟩) L cap) (k : Nat) (hk : k < ss.length) :
    wr.cell? ⟨g, k, none⟩ = some (.int .i64 (ss[k] : Int)) := by
  obtain ⟨g', cap', e, _, _, _, h1⟩ := h.stack (by omega)
  rw [hsv] at e
  simp only [Value.slice.injEq, Option.some.injEq, Addr.mk.injEq, and_true] at e
  rw [e.1]
  exact h1 k hk

/-- THE STATE OF THE RUN. -/
def SM (N gp n : Nat) (start tg : Nat → Nat) (σ : St) (w wr : World) : Prop :=
  Inv n start tg σ ∧ Below N w wr ∧ ∃ sv pv, TM N gp n σ.idx σ.low σ.comp σ.reached sv pv (stk σ.fr) (pth σ.fr) wr

theorem tm_start (gp n : Nat) (w : World) : TM w.heap.size gp n (fun _ => 0) (fun _ => 0) (fun _ => 0) 0 (.slice none 0 0) (.slice none 0 0) [] []
    ((((((((((w.alloc (.cells #[.pointer (some ⟨gp, 0, none⟩)] 48)).alloc (.cells #[.slice (some ⟨w.heap.size + 6, 0, none⟩) n n] 27)).alloc (.cells (madeCells #[.int .i64 0] n) 3)).alloc (.cells #[.slice (some ⟨w.heap.size + 2, 0, none⟩) n n] 27)).alloc
      (.cells (madeCells #[.int .i64 0] n) 3)).alloc (.cells #[.slice (some ⟨w.heap.size + 4, 0, none⟩) n n] 27)).alloc (.cells (madeCells #[.int .i64 0] n) 3)).alloc (.cells #[.slice none 0 0] 27)).alloc (.cells #[.slice none 0 0] 66)).alloc (.cells #[.int .i64 0] 3)) := by
  have one : ∀ (W : World) (v : Value) (t : TypeId), Row (W.alloc (.cells #[v] t)) W.heap.size 1 (fun _ => v) := fun W v t => Row.lits W #[v] t 1 _ (by simp) (fun i hi => by obtain rfl : i = 0 := by omega
                                                                                                                                                                              rfl)
  have r0 := one w (.pointer (some ⟨gp, 0, none⟩)) 48
  generalize hw1 : w.alloc (.cells #[.pointer (some ⟨gp, 0, none⟩)] 48) = w1 at *
  have s1 : w1.heap.size = w.heap.size + 1 := by rw [← hw1]; simp
  have r1 := one w1 (.slice (some ⟨w.heap.size + 6, 0, none⟩) n n) 27
  generalize hw2 : w1.alloc (.cells #[.slice (some ⟨w.heap.size + 6, 0, none⟩) n n] 27) = w2 at *
  have s2 : w2.heap.size = w.heap.size + 2 := by rw [← hw2]; simp [s1]
  have r2 := Row.made w2 (.int .i64 0) n 3
  generalize hw3 : w2.alloc (.cells (madeCells #[.int .i64 0] n) 3) = w3 at *
  have s3 : w3.heap.size = w.heap.size + 3 := by rw [← hw3]; simp [s2]
  have r3 := one w3 (.slice (some ⟨w.heap.size + 2, 0, none⟩) n n) 27
  generalize hw4 : w3.alloc (.cells #[.slice (some ⟨w.heap.size + 2, 0, none⟩) n n] 27) = w4 at *
  have s4 : w4.heap.size = w.heap.size + 4 := by rw [← hw4]; simp [s3]
  have r4 := Row.made w4 (.int .i64 0) n 3
  generalize hw5 : w4.alloc (.cells (madeCells #[.int .i64 0] n) 3) = w5 at *
  have s5 : w5.heap.size = w.heap.size + 5 := by rw [← hw5]; simp [s4]
  have r5 := one w5 (.slice (some ⟨w.heap.size + 4, 0, none⟩) n n) 27
  generalize hw6 : w5.alloc (.cells #[.slice (some ⟨w.heap.size + 4, 0, none⟩) n n] 27) = w6 at *
  have s6 : w6.heap.size = w.heap.size + 6 := by rw [← hw6]; simp [s5]
  have r6 := Row.made w6 (.int .i64 0) n 3
  generalize hw7 : w6.alloc (.cells (madeCells #[.int .i64 0] n) 3) = w7 at *
  have s7 : w7.heap.size = w.heap.size + 7 := by rw [← hw7]; simp [s6]
  have r7 := one w7 (.slice none 0 0) 27
  generalize hw8 : w7.alloc (.cells #[.slice none 0 0] 27) = w8 at *
  have s8 : w8.heap.size = w.heap.size + 8 := by rw [← hw8]; simp [s7]
  have r8 := one w8 (.slice none 0 0) 66
  generalize hw9 : w8.alloc (.cells #[.slice none 0 0] 66) = w9 at *
  have s9 : w9.heap.size = w.heap.size + 9 := by rw [← hw9]; simp [s8]
  have r9 := one w9 (.int .i64 0) 3
  have b1 : ∀ {b k f}, Row w1 b k f → Row (w9.alloc (.cells #[.int .i64 0] 3)) b k f := fun h => by
    rw [← hw9, ← hw8, ← hw7, ← hw6, ← hw5, ← hw4, ← hw3, ← hw2]
    exact ((((((((h.alloc _).alloc _).alloc _).alloc _).alloc _).alloc _).alloc _).alloc _).alloc _
  have b2 : ∀ {b k f}, Row w2 b k f → Row (w9.alloc (.cells #[.int .i64 0] 3)) b k f := fun h => by
    rw [← hw9, ← hw8, ← hw7, ← hw6, ← hw5, ← hw4, ← hw3]
    exact (((((((h.alloc _).alloc _).alloc _).alloc _).alloc _).alloc _).alloc _).alloc _
  have b3 : ∀ {b k f}, Row w3 b k f → Row (w9.alloc (.cells #[.int .i64 0] 3)) b k f := fun h => by
    rw [← hw9, ← hw8, ← hw7, ← hw6, ← hw5, ← hw4]
    exact ((((((h.alloc _).alloc _).alloc _).alloc _).alloc _).alloc _).alloc _
  have b4 : ∀ {b k f}, Row w4 b k f → Row (w9.alloc (.cells #[.int .i64 0] 3)) b k f := fun h => by
    rw [← hw9, ← hw8, ← hw7, ← hw6, ← hw5]
    exact (((((h.alloc _).alloc _).alloc _).alloc _).alloc _).alloc _
  have b5 : ∀ {b k f}, Row w5 b k f → Row (w9.alloc (.cells #[.int .i64 0] 3)) b k f := fun h => by
    rw [← hw9, ← hw8, ← hw7, ← hw6]
    exact ((((h.alloc _).alloc _).alloc _).alloc _).alloc _
  have b6 : ∀ {b k f}, Row w6 b k f → Row (w9.alloc (.cells #[.int .i64 0] 3)) b k f := fun h => by
    rw [← hw9, ← hw8, ← hw7]
    exact (((h.alloc _).alloc _).alloc _).alloc _
  have b7 : ∀ {b k f}, Row w7 b k f → Row (w9.alloc (.cells #[.int .i64 0] 3)) b k f := fun h => by
    rw [← hw9, ← hw8]
    exact ((h.alloc _).alloc _).alloc _
  have b8 : ∀ {b k f}, Row w8 b k f → Row (w9.alloc (.cells #[.int .i64 0] 3)) b k f := fun h => by
    rw [← hw9]
    exact (h.alloc _).alloc _
  rw [s1] at r1; rw [s2] at r2; rw [s3] at r3; rw [s4] at r4; rw [s5] at r5; rw [s6] at r6; rw [s7] at r7; rw [s8] at r8; rw [s9] at r9
  exact ⟨b1 r0, b2 r1, b3 r2, b4 r3, b5 r4, b6 r5, b7 r6, b8 r7, r8.alloc _, r9, World.ownsRow_nil _ _ _ _, World.ownsRow_nil _ _ _ _⟩

set_option maxRecDepth 100000 in
set_option maxHeartbeats 1000000 in
theorem c23 (hN : N = w.heap.size) (hn : n ≤ 131072) (hg : GM N gp x n sb scap tao tlen tcap start tg w) (hmono : ∀ v, v < n → start v ≤ start (v + 1)) (hlast : start n ≤ tlen) (htl : tlen ≤ 1048576)
    (hedge : ∀ u, u < n → ∀ j, start u ≤ j → j < start (u + 1) → tg j < n) :
    Calls Try.prog 23 #[.pointer (some ⟨gp, 0, none⟩)] w fun e w' => (∃ cb comp count, e = .returned (.tuple #[.slice (some ⟨cb, 0, none⟩) n n, .int .i64 (count : Nat)]) ∧ Row w' cb n (fun v => .int .i64 (comp v)) ∧ Res n start tg comp count) ∧ Below N w w' := by
  refine calls_hide fun R' hR => ?_
  have hmk := run_make_row' (P := Try.prog) 27 3 (.int .i64 0) 8 Try.underlying27 info3 rfl .i64 .i64 n (by omega) (by omega)
  have HG : Hid _ := hg
  have HM : Hid _ := hmono
  have HE : Hid _ := hedge
  clear hg hmono hedge
  subst hN
  go_enter Try.func23, Try.ntmps23
  go_wp2_with (go_at_call 26; refine (c26 (N := w.heap.size) hn (HG.out.below (((Below.refl _ _).alloc (Nat.le_refl _) _).alloc (by simp) _))).mono ?_; rintro e w1 ⟨rfl, rfl⟩)
  have HB : Hid _ := (((((((((((Below.refl w.heap.size w).alloc (Nat.le_refl _) (.cells #[.pointer (some ⟨gp, 0, none⟩)] 48)).alloc (by simp) (.cells #[.slice (some ⟨w.heap.size + 6, 0, none⟩) n n] 27)).alloc (by simp; omega) (.cells (madeCells #[.int .i64 0] n) 3)).alloc (by simp; omega) (.cells #[.slice (some ⟨w.heap.size + 2, 0, none⟩) n n] 27)).alloc (by simp; omega)
      (.cells (madeCells #[.int .i64 0] n) 3)).alloc (by simp; omega) (.cells #[.slice (some ⟨w.heap.size + 4, 0, none⟩) n n] 27)).alloc (by simp; omega) (.cells (madeCells #[.int .i64 0] n) 3)).alloc (by simp; omega) (.cells #[.slice none 0 0] 27)).alloc (by simp; omega) (.cells #[.slice none 0 0] 66)).alloc (by simp; omega) (.cells #[.int .i64 0] 3))
  have HT : Hid _ := tm_start gp n w
  simp only [Nat.add_assoc, Nat.reduceAdd]
  generalize hW : (((((((((w.alloc (.cells #[.pointer (some ⟨gp, 0, none⟩)] 48)).alloc (.cells #[.slice (some ⟨w.heap.size + 6, 0, none⟩) n n] 27)).alloc (.cells (madeCells #[.int .i64 0] n) 3)).alloc (.cells #[.slice (some ⟨w.heap.size + 2, 0, none⟩) n n] 27)).alloc
      (.cells (madeCells #[.int .i64 0] n) 3)).alloc (.cells #[.slice (some ⟨w.heap.size + 4, 0, none⟩) n n] 27)).alloc (.cells (madeCells #[.int .i64 0] n) 3)).alloc (.cells #[.slice none 0 0] 27)).alloc (.cells #[.slice none 0 0] 66)).alloc (.cells #[.int .i64 0] 3) = W0 at *
  clear hW hmk
  generalize hN : w.heap.size = N at *
  clear hN
  go_loopw [3, 29] (fun c i wr => ∃ (σ : St) (root : Nat), root ≤ n ∧ i = .int .i64 root ∧ c = .int .i64 (σ.count : Nat) ∧ σ.fr = [] ∧ (∀ v, v < root → σ.idx v ≠ 0) ∧ SM N gp n start tg σ w wr) (fun _ i _ => n - (intOf i).toNat)
  case atStart => exact ⟨⟨fun _ => 0, fun _ => 0, fun _ => 0, [], 0, 0⟩, 0, Nat.zero_le _, rfl, rfl, rfl, fun v hv => by omega, inv_start, HB.out, _, _, HT.out⟩
  case round =>
    clear HB HT
    obtain ⟨σ, root, hr, rfl, rfl, hfr, hall, hS⟩ := hrel
    obtain ⟨hI, hB, sv, pv, hT⟩ := hS
    have c3 := hT.ib.cell (i := 0) (by omega)
    by_cases hlt : root < n
    · have c2 := hT.ix.cell (i := root) hlt
      by_cases h0 : σ.idx root = 0
      · -- a root that is not reached
        have HH : Hid _ := And.intro hI (And.intro hB (And.intro hfr hall))
        have e0 : ((σ.idx root : Int) != 0) = false := by simp [h0]
        have HT : Hid _ := hT
        have Hz : Hid _ := h0
        unfold vint at c2
        clear hI hB hfr hall hT h0
        go_wp2_with fail
        refine (c27 root hlt hn (by have := HH.out.1.all; omega) (by have := HH.out.1.stn; have := HH.out.1.all; omega) (by rw [pth_len]; have := HH.out.1.num; have := HH.out.1.all; omega) HT.out (HG.out.below HH.out.2.1)).mono ?_
        rintro e w1 ⟨rfl, ⟨sv1, pv1, hT1⟩, hB1⟩
        have HS : Hid (SM N gp n start tg (visit start root σ []) w w1) := by
          obtain ⟨q1, q2, q3, q4⟩ := HH.out
          rw [q3] at hT1
          exact ⟨inv_root q1 q3 hlt Hz.out (HM.out root hlt), q2.trans hB1, sv1, pv1, hT1⟩
        have Hv : Hid (∀ v, v < root + 1 → (visit start root σ []).idx v ≠ 0) := by
          intro v hv
          by_cases e : v = root
          · rw [e]; show upd σ.idx root (σ.reached + 1) root ≠ 0; rw [upd_same]; omega
          · show upd σ.idx root (σ.reached + 1) v ≠ 0
            rw [upd_other _ _ _ e]
            exact HH.out.2.2.2 v (by omega)
        clear HH hT1 hB1 HT Hz c2 c3 e0
        go_wp2
        go_loopg [3] (meas start n (visit start root σ [])) (fun k c wr => ∃ τ : St, k = meas start n τ ∧ c = .int .i64 (τ.count : Nat) ∧ (∀ v, v < root + 1 → τ.idx v ≠ 0) ∧ SM N gp n start tg τ w wr)
        case atStart => exact ⟨_, rfl, rfl, Hv.out, HS.out⟩
        case round =>
          clear HS Hv
          obtain ⟨τ, rfl, rfl, hall, hI, hB, sv, pv, hT⟩ := hrel
          cases hfr : τ.fr with
          | nil =>
            rw [hfr] at hT
            obtain ⟨ap, cap, rfl⟩ := hT.bare
            have c8 := hT.pb.cell (i := 0) (by omega)
            have HT : Hid _ := hT
            have HH : Hid _ := And.intro hI (And.intro hB (And.intro hfr hall))
            clear hI hB hfr hall hT
            go_wp2
            go_roundw
            case rel =>
              obtain ⟨q1, q2, q3, q4⟩ := HH.out
              exact ⟨τ, root + 1, by omega, by go_num, rfl, q3, q4, q1, q2, sv, _, by rw [q3]; exact HT.out⟩
            case measure => simp [intOf]; omega
          | cons f r =>
            rw [hfr] at hT
            obtain ⟨g, cap, rfl, hg1, hg2, hcap, cv, ce, fe⟩ := hT.top
            have hf : f ∈ τ.fr := by rw [hfr]; simp
            have hfv : f.v < n := (hI.vis f hf f.v (by simp [Fr.seg])).1
            have hgm := HG.out.below hB
            have c8 := hT.pb.cell (i := 0) (by omega)
            have c0 := hT.g.cell (i := 0) (by omega)
            have cg1 : wr.cell? ⟨gp, 1, none⟩ = some (.slice (some ⟨sb, 0, none⟩) (n + 1) scap) := hgm.g.cell (i := 1) (by omega)
            have cg2 : wr.cell? ⟨gp, 2, none⟩ = some (.slice tao tlen tcap) := hgm.g.cell (i := 2) (by omega)
            have cs : wr.cell? ⟨sb, f.v + 1, none⟩ = some (.int .i64 (start (f.v + 1) : Nat)) := hgm.s.cell (i := f.v + 1) (by omega)
            have q1 : (f.v : Int) + 1 < (n : Int) + 1 := by omega
            have hrl : r.length ≤ 131072 := by have h1 := hI.num; have h2 := hI.all; rw [hfr] at h1; simp at h1; omega
            by_cases he : f.e < start (f.v + 1)
            · have HH : Hid _ := And.intro hI (And.intro hB (And.intro hfr hall))
              have HT : Hid _ := hT
              have hst : start (f.v + 1) ≤ tlen := Nat.le_trans (mono_le HM.out (by omega) (Nat.le_refl n)) hlast
              obtain ⟨t, ht⟩ : ∃ t : Nat, t = tg f.e := ⟨_, rfl⟩
              have htn : t < n := by rw [ht]; exact HE.out f.v hfv f.e (hI.edge f hf).1 he
              obtain ⟨tb, rfl, htb, ct⟩ := hgm.t f.e (Nat.le_trans (mono_le HM.out (Nat.zero_le _) (by omega)) (hI.edge f hf).1) (Nat.lt_of_lt_of_le he (mono_le HM.out (by omega) (Nat.le_refl n)))
              rw [← ht] at ct
              have Ht : Hid _ := ht
              have q2 : (f.e : Int) < (tlen : Int) := by omega
              have c3 := hT.ib.cell (i := 0) (by omega)
              have c2 : wr.cell? ⟨N + 2, t, none⟩ = some (.int .i64 (τ.idx t : Nat)) := hT.ix.cell (i := t) htn
              have Hb : Hid _ := And.intro (hI.lowle f hf) (hI.le t htn)
              clear ht
              by_cases h0 : τ.idx t = 0
              · have e0 : ((τ.idx t : Int) == 0) = true := by simp [h0]
                have Hz : Hid _ := h0
                clear hI hB hfr hall hT hgm h0
                go_wp2
                go_quiet (fail)
                go_wp2
                go_quiet (fail)
                go_wp2_with fail
                refine (c27 t htn hn (by have := HH.out.1.all; omega) (by have h1 := HH.out.1.stn; have := HH.out.1.all; rw [HH.out.2.2.1] at h1; omega) (by rw [pth_len]; simp; have h1 := HH.out.1.num; have := HH.out.1.all; rw [HH.out.2.2.1] at h1; simp at h1; omega) (HT.out.drewN _).adv (HG.out.below ((below_drewN HH.out.2.1 _).setCell (by show N ≤ g; omega) _))).mono ?_
                rintro e w1 ⟨rfl, ⟨sv1, pv1, hT1⟩, hB1⟩
                have HS : Hid (SM N gp n start tg (visit start t τ (⟨f.v, f.e + 1, f.rest⟩ :: r)) w w1) := ⟨inv_visit HH.out.1 HH.out.2.2.1 he Ht.out.symm htn Hz.out (HM.out t htn), ((below_drewN HH.out.2.1 _).setCell (by show N ≤ g; omega) _).trans hB1, sv1, pv1, hT1⟩
                have Hm : Hid _ := meas_visit (n := n) HH.out.2.2.1 he htn Hz.out
                have Ha : Hid (∀ v, v < root + 1 → (visit start t τ (⟨f.v, f.e + 1, f.rest⟩ :: r)).idx v ≠ 0) := by
                  intro v hv
                  by_cases e : v = t
                  · rw [e]; show upd τ.idx t (τ.reached + 1) t ≠ 0; rw [upd_same]; omega
                  · show upd τ.idx t (τ.reached + 1) v ≠ 0
                    rw [upd_other _ _ _ e]
                    exact HH.out.2.2.2 v hv
                clear hT1 hB1 HT HH
                go_wp2
                go_roundg (meas start n (visit start t τ (⟨f.v, f.e + 1, f.rest⟩ :: r)))
                case rel => exact ⟨_, rfl, rfl, Ha.out, HS.out⟩
                case measure => exact Hm.out
              · have e0 : ((τ.idx t : Int) == 0) = false := by simp; omega
                have Hz : Hid _ := h0
                have c1 := hT.cb.cell (i := 0) (by omega)
                have c6 := hT.cx.cell (i := t) htn
                by_cases hc : τ.comp t < 0
                · have c5 := hT.lb.cell (i := 0) (by omega)
                  have c4 : wr.cell? ⟨N + 4, f.v, none⟩ = some (.int .i64 (τ.low f.v : Nat)) := hT.lx.cell (i := f.v) hfv
                  have f4 := hT.lx.frozen f.v
                  have HS : Hid (∀ (k m : Nat), m = min (τ.low f.v) (τ.idx t) → SM N gp n start tg ⟨τ.idx, upd τ.low f.v m, τ.comp, ⟨f.v, f.e + 1, f.rest⟩ :: r, τ.reached, τ.count⟩ w
                      ((((wr.drewN k).setCell ⟨g, r.length * 2 + 1, none⟩ (.int .i64 ((f.e : Int) + 1))).setCell ⟨N + 4, f.v, none⟩ (.int .i64 (m : Int))).drew)) := by
                    intro k m hm
                    refine ⟨inv_low hI hfr he (by rw [← Ht.out]; exact htn) (by rw [← Ht.out]; exact h0) (by rw [← Ht.out]; exact hc) (by rw [← Ht.out]; exact hm), ?_, sv, _, (((HT.out.drewN k).adv).setLow f.v m).drew⟩
                    exact (((below_drewN hB k).setCell (by show N ≤ g; omega) _).setCell (by show N ≤ N + 4; omega) _).drew
                  have HS1 : Hid (∀ k : Nat, τ.idx t < τ.low f.v → _) := fun k hm => HS.out k (τ.idx t) (by omega)
                  have HS2 : Hid (∀ k : Nat, ¬ τ.idx t < τ.low f.v → _) := fun k hm => HS.out k (τ.low f.v) (by omega)
                  have Hm : Hid _ := meas_adv (n := n) (low' := τ.low) hfr he
                  have Ha : Hid _ := hall
                  clear hI hB hfr hall hT hgm h0 HT HH Hz HS
                  go_wp2
                  go_quiet (fail)
                  go_wp2
                  go_quiet (fail)
                  go_wp2
                  go_region
                  all_goals go_wp2
                  all_goals
                    go_roundg (meas start n ⟨τ.idx, τ.low, τ.comp, ⟨f.v, f.e + 1, f.rest⟩ :: r, τ.reached, τ.count⟩)
                    case rel =>
                      first
                        | exact ⟨⟨τ.idx, upd τ.low f.v (τ.idx t), τ.comp, ⟨f.v, f.e + 1, f.rest⟩ :: r, τ.reached, τ.count⟩, rfl, rfl, Ha.out, HS1.out _ (by assumption)⟩
                        | exact ⟨⟨τ.idx, upd τ.low f.v (τ.low f.v), τ.comp, ⟨f.v, f.e + 1, f.rest⟩ :: r, τ.reached, τ.count⟩, rfl, rfl, Ha.out, HS2.out _ (by assumption)⟩
                    case measure => exact Hm.out
                · have hd : decide (τ.comp t < 0) = false := decide_eq_false hc
                  have HS : Hid (∀ (k : Nat), SM N gp n start tg ⟨τ.idx, τ.low, τ.comp, ⟨f.v, f.e + 1, f.rest⟩ :: r, τ.reached, τ.count⟩ w
                      ((wr.drewN k).setCell ⟨g, r.length * 2 + 1, none⟩ (.int .i64 ((f.e : Int) + 1)))) := by
                    intro k
                    exact ⟨inv_skip hI hfr he (by rw [← Ht.out]; exact htn) (by rw [← Ht.out]; exact h0) (by rw [← Ht.out]; exact hc), (below_drewN hB k).setCell (by show N ≤ g; omega) _, sv, _, (HT.out.drewN k).adv⟩
                  have Hm : Hid _ := meas_adv (n := n) (low' := τ.low) hfr he
                  have Ha : Hid _ := hall
                  clear hI hB hfr hall hT hgm h0 HT HH Hz
                  go_wp2
                  go_quiet (fail)
                  go_wp2
                  go_quiet (fail)
                  go_wp2
                  go_roundg (meas start n ⟨τ.idx, τ.low, τ.comp, ⟨f.v, f.e + 1, f.rest⟩ :: r, τ.reached, τ.count⟩)
                  case rel => exact ⟨_, rfl, rfl, Ha.out, HS.out _⟩
                  case measure => exact Hm.out
            · have hee : f.e = start (f.v + 1) := by have := (hI.edge f hf).2; omega
              have hd0 : decide ((f.e : Int) < (start (f.v + 1) : Nat)) = false := decide_eq_false (by omega)
              have f8 := hT.pb.frozen 0
              have HI : Hid _ := hI
              have HT : Hid _ := hT
              have HBe : Hid _ := hB
              have Hfr : Hid _ := hfr
              have Ha : Hid _ := hall
              have Hee : Hid _ := hee
              clear hI hB hfr hall hT hgm hee
              go_wp2
              go_quiet (fail)
              go_upto_if 124 with (fail)
              go_cut [] (fun wc => ∃ (low' : Nat → Nat) (pv' : Value), low' f.v = τ.low f.v ∧ (∀ p r', r = p :: r' → low' p.v = min (τ.low p.v) (τ.low f.v) ∧ ∀ d ∈ r', low' d.v = τ.low d.v) ∧ Below N w wc ∧ TM N gp n τ.idx low' τ.comp τ.reached sv pv' (stk (f :: r)) (pth r) wc)
              case first =>
                cases r with
                | nil =>
                  go_wp2
                  go_meet
                  case rel => exact ⟨τ.low, _, rfl, fun p r' h => by simp at h, ((below_drewN HBe.out _).setCell (by show N ≤ N + 8; omega) _), (HT.out.drewN _).pop⟩
                | cons p r' =>
                  have hp : p ∈ τ.fr := by rw [Hfr.out]; simp
                  have hpv : p.v < n := (HI.out.vis p hp p.v (by simp [Fr.seg])).1
                  have hpn : p.v ≠ f.v := other_v HI.out Hfr.out p (by simp)
                  have HP := (HT.out.drewN nq).pop
                  have HB1 : Hid (Below N w ((wr.drewN nq).setCell ⟨N + 8, 0, none⟩ (.slice (some ⟨g, 0, none⟩) (p :: r').length cap))) := (below_drewN HBe.out _).setCell (by show N ≤ N + 8; omega) _
                  obtain ⟨W1, hW⟩ : ∃ W1 : World, W1 = (wr.drewN nq).setCell ⟨N + 8, 0, none⟩ (.slice (some ⟨g, 0, none⟩) (p :: r').length cap) := ⟨_, rfl⟩
                  rw [← hW] at HP HB1 ⊢
                  clear hW
                  have d8 := HP.pb.cell (i := 0) (by omega)
                  have dp := TM.topAt (r := r') HP
                  have d5 := HP.lb.cell (i := 0) (by omega)
                  have dl : W1.cell? ⟨N + 4, p.v, none⟩ = some (.int .i64 (τ.low p.v : Nat)) := HP.lx.cell (i := p.v) hpv
                  have df : W1.cell? ⟨N + 4, f.v, none⟩ = some (.int .i64 (τ.low f.v : Nat)) := HP.lx.cell (i := f.v) hfv
                  have dz := HP.lx.frozen p.v
                  have hrl2 : r'.length ≤ 131072 := by simp at hrl; omega
                  have hd9 : (0 : Int) < ((p :: r').length : Int) := by simp only [List.length_cons]; omega
                  have HR : Hid (∀ m : Nat, m = min (τ.low p.v) (τ.low f.v) → ∃ (low' : Nat → Nat) (pv' : Value), low' f.v = τ.low f.v ∧ (∀ p' r'', p :: r' = p' :: r'' → low' p'.v = min (τ.low p'.v) (τ.low f.v) ∧ ∀ d ∈ r'', low' d.v = τ.low d.v) ∧ Below N w (W1.setCell ⟨N + 4, p.v, none⟩ (.int .i64 (m : Int))).drew ∧
                      TM N gp n τ.idx low' τ.comp τ.reached sv pv' (stk (f :: p :: r')) (pth (p :: r')) (W1.setCell ⟨N + 4, p.v, none⟩ (.int .i64 (m : Int))).drew) := by
                    intro m hm
                    refine ⟨upd τ.low p.v m, _, upd_other _ _ _ (Ne.symm hpn), ?_, (HB1.out.setCell (by show N ≤ N + 4; omega) _).drew, (HP.setLow p.v m).drew⟩
                    intro p' r'' e
                    cases e
                    refine ⟨by rw [upd_same]; exact hm, fun d hd => upd_other _ _ _ ?_⟩
                    intro e
                    have hsep := HI.out.sep
                    rw [Hfr.out] at hsep
                    have := (List.pairwise_cons.1 (List.pairwise_cons.1 hsep).2).1 d hd d.v (by simp [Fr.seg])
                    rw [e] at this
                    omega
                  have HR1 : Hid (τ.low f.v < τ.low p.v → _) := fun hm => HR.out (τ.low f.v) (by omega)
                  have HR2 : Hid (¬ τ.low f.v < τ.low p.v → _) := fun hm => HR.out (τ.low p.v) (by omega)
                  clear HP HB1 HT HBe HI Hfr Ha Hee hpn c8 c0 cg1 cg2 cs cv ce fe HR
                  go_wp2
                  go_region
                  all_goals go_wp2
                  all_goals go_meet
                  all_goals first | exact HR1.out (by assumption) | exact HR2.out (by assumption)
              case rest =>
                obtain ⟨low', pv', hlf, hlp, hB2, hT2⟩ := hcut
                clear c8 c0 cg1 cg2 cs cv ce fe f8
                have d5 := hT2.lb.cell (i := 0) (by omega)
                have d3 := hT2.ib.cell (i := 0) (by omega)
                have dl : wc.cell? ⟨N + 4, f.v, none⟩ = some (.int .i64 (τ.low f.v : Nat)) := by rw [← hlf]; exact hT2.lx.cell (i := f.v) hfv
                have di : wc.cell? ⟨N + 2, f.v, none⟩ = some (.int .i64 (τ.idx f.v : Nat)) := hT2.ix.cell (i := f.v) hfv
                have q3 : (f.v : Int) < (n : Int) := by omega
                by_cases heq : τ.low f.v = τ.idx f.v
                · have e1 : ((τ.low f.v : Int) == (τ.idx f.v : Int)) = true := by simp [heq]
                  have hf' : f ∈ τ.fr := hf
                  have hlow : ∀ d ∈ r, low' d.v = τ.low d.v := by
                    intro d hd
                    cases r with
                    | nil => simp at hd
                    | cons p r' =>
                      obtain ⟨l1, l2⟩ := hlp p r' rfl
                      rcases List.mem_cons.1 hd with rfl | hd
                      · have hsep := HI.out.sep
                        rw [Hfr.out] at hsep
                        have h1 := (List.pairwise_cons.1 hsep).1 d (by simp) d.v (by simp [Fr.seg])
                        have h2 := HI.out.lowle d (by rw [Hfr.out]; simp)
                        rw [l1]; omega
                      · exact l2 d hd
                  obtain ⟨ss, hss⟩ : ∃ ss, ss = stk (f :: r) := ⟨_, rfl⟩
                  rw [← hss] at hT2
                  obtain ⟨m, hm⟩ : ∃ m, m = (stk r).length := ⟨_, rfl⟩
                  obtain ⟨L, hL⟩ : ∃ L, L = ss.length := ⟨_, rfl⟩
                  have hmL : L = m + f.seg.length := by rw [hL, hss, hm]; simp [stk]
                  have hsl : f.seg.length = f.rest.length + 1 := by simp [Fr.seg]
                  have hLn : L ≤ 131072 := by have h1 := HI.out.stn; have h2 := HI.out.all; rw [Hfr.out, ← hss, ← hL] at h1; omega
                  have hget : ∀ q (hq : q < f.seg.length) (hk : m + q < ss.length), ss[m + q] = f.seg[q] := by
                    intro q hq hk
                    have : ss[m + q]? = some f.seg[q] := by
                      rw [hss, hm]
                      simp only [stk]
                      rw [List.getElem?_append_right (by omega), Nat.add_sub_cancel_left, List.getElem?_eq_getElem hq]
                    rw [List.getElem?_eq_getElem hk] at this
                    exact Option.some.inj this
                  obtain ⟨hb, scap', hsv, hh1, hh2, hscap, hst⟩ := hT2.stack (by omega)
                  have Hget : Hid _ := hget
                  have Hst : Hid _ := hst
                  have HmL : Hid _ := hmL
                  rw [← hL] at hsv hscap
                  have d7 := hT2.sb.cell (i := 0) (by omega)
                  have f7 := hT2.sb.frozen 0
                  rw [hsv] at d7
                  have Hsv : Hid _ := hsv
                  have HL : Hid _ := hL
                  have Hm : Hid _ := hm
                  have Hss : Hid _ := hss
                  have Hlo : Hid _ := hlow
                  have HT2 : Hid _ := hT2
                  have HB2 : Hid _ := hB2
                  have Heq : Hid _ := heq
                  have hmlt : m < L := by omega
                  have hnc : ¬ scap' = m := by omega
                  have hL1 : 1 ≤ L := by omega
                  clear hget hst hmL hsv hL hm hss hlow hT2 hB2 heq hlf hlp HT HBe hf' hsl
                  go_wp2
                  go_quiet (fail)
                  go_wp2
                  go_loop [16] (fun i => ∃ k : Nat, m ≤ k ∧ k < L ∧ i = .int .i64 k) (fun i => (intOf i).toNat)
                  case atStart => exact ⟨L - 1, by omega, by omega, by go_num⟩
                  case round =>
                    clear d5 d3 dl di f7
                    obtain ⟨k, hk1, hk2, rfl⟩ := hrel
                    obtain ⟨u, hu⟩ : ∃ u, u = ss[k]'(by rw [← HL.out]; exact hk2) := ⟨_, rfl⟩
                    have cu : wc.cell? ⟨hb, k, none⟩ = some (.int .i64 (u : Int)) := by rw [hu]; exact Hst.out k _
                    by_cases hkm : k = m
                    · have e2 : ((u : Int) != (f.v : Int)) = false := by
                        have h1 := Hget.out 0 (by simp [Fr.seg]) (by rw [← HL.out]; omega)
                        have h2 : u = f.v := by
                          rw [hu]
                          simp only [hkm]
                          simp only [Nat.add_zero] at h1
                          rw [h1]; rfl
                        simp [h2]
                      have Hu : Hid _ := hu
                      clear hu
                      subst hkm
                      go_wp2
                      go_loopw [168] (fun j wr => ∃ q : Nat, k + q ≤ L ∧ j = .int .i64 q ∧ ∃ comp' : Nat → Int, (∀ u ∈ f.seg.take q, comp' u = τ.count) ∧ (∀ u, u ∉ f.seg.take q → comp' u = τ.comp u) ∧ Below N w wr ∧ TM N gp n τ.idx low' comp' τ.reached sv pv' ss (pth r) wr) (fun j _ => L - k - (intOf j).toNat)
                      case atStart => exact ⟨0, by omega, rfl, τ.comp, by simp, fun _ _ => rfl, below_drewN HB2.out _, HT2.out.drewN _⟩
                      case round =>
                        obtain ⟨q, hq, rfl, comp', hc1, hc2, hB3, hT3⟩ := hrel
                        have Hc : Hid _ := And.intro hc1 hc2
                        by_cases hqt : k + q < L
                        · have hqs : q < f.seg.length := by have := HmL.out; omega
                          obtain ⟨y, hy⟩ : ∃ y, y = f.seg[q] := ⟨_, rfl⟩
                          have hyn : y < n := by rw [hy]; exact (HI.out.vis f hf _ (List.getElem_mem hqs)).1
                          have cy : wr.cell? ⟨hb, k + q, none⟩ = some (.int .i64 (y : Int)) := by
                            rw [hT3.stackAt Hsv.out (k + q) (by rw [← HL.out]; exact hqt), Hget.out q hqs, hy]
                          have d1 := hT3.cb.cell (i := 0) (by omega)
                          have d6 := hT3.cx.cell (i := y) hyn
                          have f6 := hT3.cx.frozen y
                          have HS : Hid (∃ comp'' : Nat → Int, (∀ u ∈ f.seg.take (q + 1), comp'' u = τ.count) ∧ (∀ u, u ∉ f.seg.take (q + 1) → comp'' u = τ.comp u) ∧ Below N w (wr.setCell ⟨N + 6, y, none⟩ (.int .i64 (τ.count : Nat))) ∧ TM N gp n τ.idx low' comp'' τ.reached sv pv' ss (pth r) (wr.setCell ⟨N + 6, y, none⟩ (.int .i64 (τ.count : Nat)))) := by
                            refine ⟨upd comp' y τ.count, ?_, ?_, hB3.setCell (by show N ≤ N + 6; omega) _, hT3.setComp y τ.count⟩
                            · intro u hu2
                              rw [List.take_succ_eq_append_getElem hqs, List.mem_append] at hu2
                              by_cases e : u = y
                              · rw [e, upd_same]
                              · rw [upd_other _ _ _ e]
                                rcases hu2 with hu2 | hu2
                                · exact hc1 u hu2
                                · rw [← hy] at hu2; simp at hu2; exact absurd hu2 e
                            · intro u hu2
                              rw [List.take_succ_eq_append_getElem hqs, List.mem_append, ← hy] at hu2
                              have e : u ≠ y := fun e => hu2 (Or.inr (by simp [e]))
                              rw [upd_other _ _ _ e]
                              exact hc2 u (fun h => hu2 (Or.inl h))
                          clear hc1 hc2 hB3 hT3 hy
                          go_wp2
                          go_roundw
                          case rel => exact ⟨q + 1, by omega, by go_num, HS.out⟩
                          case measure => simp [intOf]; omega
                        · have d7' := hT3.sb.cell (i := 0) (by omega)
                          have f7' := hT3.sb.frozen 0
                          rw [Hsv.out] at d7'
                          have hfull : f.seg.take q = f.seg := List.take_of_length_le (by have := HmL.out; omega)
                          rw [hfull] at hc1 hc2
                          have HS : Hid (SM N gp n start tg ⟨τ.idx, low', comp', r, τ.reached, τ.count + 1⟩ w (wr.setCell ⟨N + 7, 0, none⟩ (.slice (some ⟨hb, 0, none⟩) k scap'))) := by
                            refine ⟨inv_close HI.out Hfr.out Hee.out Heq.out Hlo.out hc1 hc2 HE.out, hB3.setCell (by show N ≤ N + 7; omega) _, .slice (some ⟨hb, 0, none⟩) k scap', pv', ?_⟩
                            have h5 := hT3
                            rw [Hsv.out, HL.out, Hss.out] at h5
                            have h6 := TM.cutS (s1 := stk r) (s2 := f.seg) h5
                            rw [← Hm.out] at h6
                            exact h6
                          have Hme : Hid _ := meas_close (n := n) (start := start) (low' := low') (comp' := comp') (c := τ.count + 1) Hfr.out
                          have hcb : τ.count ≤ 131072 := by have h1 := HI.out.num; have h2 := HI.out.all; omega
                          clear hc1 hc2 hB3 hT3 hfull Hc
                          go_wp2
                          go_roundg (meas start n ⟨τ.idx, low', comp', r, τ.reached, τ.count + 1⟩)
                          case rel => exact ⟨_, rfl, rfl, Ha.out, HS.out⟩
                          case measure => exact Hme.out
                    · have e2 : ((u : Int) != (f.v : Int)) = true := by
                        have h1 := Hget.out (k - m) (by have := HmL.out; omega) (by rw [← HL.out]; omega)
                        have h3 : u ∈ f.rest := by
                          have h4 : u = f.seg[k - m]'(by have := HmL.out; omega) := by
                            rw [hu, ← h1]
                            congr 1
                            omega
                          rw [h4]
                          simp only [Fr.seg]
                          rw [List.getElem_cons, dif_neg (by omega)]
                          exact List.getElem_mem _
                        have h5 := HI.out.segs f hf u h3
                        have h6 : u ≠ f.v := by intro e; rw [e] at h5; omega
                        simp
                        omega
                      clear hu
                      go_wp2
                      go_round
                      case rel => exact ⟨k - 1, by omega, by omega, by go_num⟩
                      case measure => simp [intOf]; omega
                · have e1 : ((τ.low f.v : Int) == (τ.idx f.v : Int)) = false := by simp; omega
                  obtain ⟨p, r', rfl⟩ : ∃ p r', r = p :: r' := by
                    cases r with
                    | nil => exact absurd (low_alone HI.out Hfr.out) heq
                    | cons p r' => exact ⟨p, r', rfl⟩
                  have HS : Hid (∀ k, SM N gp n start tg ⟨τ.idx, low', τ.comp, ⟨p.v, p.e, p.rest ++ f.seg⟩ :: r', τ.reached, τ.count⟩ w (wc.drewN k)) := by
                    intro k
                    refine ⟨inv_merge HI.out Hfr.out Hee.out heq (hlp p r' rfl).1 (hlp p r' rfl).2, below_drewN hB2 k, sv, pv', ?_⟩
                    have := hT2.drewN k
                    simp only [stk, pth, Fr.seg, List.append_assoc, List.cons_append] at this ⊢
                    exact this
                  have Hm : Hid _ := meas_merge (n := n) (start := start) (low' := low') (l := p.rest ++ f.seg) Hfr.out
                  clear hlf hlp hB2 hT2 HI HT HBe Hfr Hee heq
                  go_wp2
                  go_quiet (fail)
                  go_wp2
                  go_roundg (meas start n ⟨τ.idx, low', τ.comp, ⟨p.v, p.e, p.rest ++ f.seg⟩ :: r', τ.reached, τ.count⟩)
                  case rel => exact ⟨_, rfl, rfl, Ha.out, HS.out _⟩
                  case measure => exact Hm.out
      · have HH : Hid _ := And.intro hI (And.intro hB (And.intro hfr hall))
        have e0 : ((σ.idx root : Int) != 0) = true := by simp; omega
        have HT : Hid _ := hT
        have Hz : Hid _ := h0
        unfold vint at c2
        clear hI hB hfr hall hT h0
        go_wp2_with fail
        go_roundw
        case rel =>
          obtain ⟨q1, q2, q3, q4⟩ := HH.out
          refine ⟨σ, root + 1, by omega, by go_num, rfl, q3, fun v hv => ?_, q1, q2, sv, pv, HT.out⟩
          by_cases e : v = root
          · rw [e]; exact Hz.out
          · exact q4 v (by omega)
        case measure => simp [intOf]; omega
    · have HH : Hid _ := And.intro hI (And.intro hB (And.intro hfr hall))
      have c1 := hT.cb.cell (i := 0) (by omega)
      have f1 := hT.cb.frozen 0
      have HT : Hid _ := hT
      clear hI hB hfr hall hT
      go_wp2_with fail
      exact bodyPost_ret (v := .tuple #[.slice (some ⟨N + 6, 0, none⟩) n n, .int .i64 (σ.count : Nat)]) (by simp [results, Try.results23, go_sem, c1]) rfl (hR.out _ _ ⟨⟨N + 6, σ.comp, σ.count, rfl, HT.out.cx.setOther (by simp) _, inv_res HH.out.1 HH.out.2.2.1 (fun v hv => HH.out.2.2.2 v (by omega))⟩, HH.out.2.1.setCell (by show N ≤ N + 1; omega) _⟩)
end
end Go.Proofs.Qxb6601391a.TJ
