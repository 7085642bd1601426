import Derived.Test.Qxb6601391aTJZZ
import Derived.Test.Qxb6601391aTJRev
namespace Go.Proofs.Qxb6601391a.TJ
open Go.RowKit Go.Proofs.Qxb6601391a.NG

/-- The graph that 'csrInDomain' let by, its copies in rows of the law's own. -/
theorem rg_ofR {n sb : Nat} {tl : Nat} {sf tf : Nat → Int} {ta' : Option Addr} {w : World} (hc : Csr (n + 1) tl sf tf) (hs : Row w sb (n + 1) (fun i => .int .i64 (sf i))) (ht : 0 < tl → ∃ tb, ta' = some ⟨tb, 0, none⟩ ∧ Row w tb tl (fun i => .int .i32 (tf i))) :
    RG n sb ta' tl (fun v => (sf v).toNat) (fun j => (tf j).toNat) w := by
  have h0 : ∀ v, v < n + 1 → 0 ≤ sf v := fun v hv => Int.le_trans hc.lo (hc.le (Nat.zero_le v) hv)
  have hhi : sf n ≤ tl := hc.hi
  refine ⟨hs.congr (fun i hi => ?_), fun j hj hj2 => ?_, fun v hv => ?_, ?_, fun u hu j hj hj2 => ?_⟩
  · have := h0 i hi
    simp only [vint]
    rw [Int.toNat_of_nonneg this]
  · have hjt : j < tl := by have := h0 n (by omega); omega
    obtain ⟨tb, e, hr⟩ := ht (by omega)
    refine ⟨tb, e, ?_⟩
    rw [hr.cell hjt]
    have hjl : sf 0 ≤ j := by have := h0 0 (by omega); omega
    have hjh : (j : Int) < sf (n + 1 - 1) := by show (j : Int) < sf n; have := h0 n (by omega); omega
    have := (hc.edge j hjl hjh).1
    rw [Int.toNat_of_nonneg this]
  · have := hc.mono v (by omega)
    have := h0 v (by omega)
    omega
  · have := h0 n (by omega)
    omega
  · have hjl : sf 0 ≤ j := by have h1 := h0 u (by omega); have h2 := hc.le (Nat.zero_le u) (show u < n + 1 by omega); omega
    have hjh : (j : Int) < sf (n + 1 - 1) := by
      show (j : Int) < sf n
      have h1 := h0 (u + 1) (by omega)
      have h2 := hc.le (show u + 1 ≤ n by omega) (show n < n + 1 by omega)
      omega
    have := hc.edge j hjl hjh
    omega

/-- One partition. -/
theorem part_eq {n : Nat} {start tg rs rt : Nat → Nat} {f g : Nat → Int} {c1 c2 : Nat} (h1 : Res n start tg f c1) (h2 : Res n rs rt g c2) (ht : Turned start tg n rs rt) (he : ∀ u, u < n → ∀ j, start u ≤ j → j < start (u + 1) → tg j < n) {u v : Nat} (hu : u < n) (hv : v < n) : f u = f v ↔ g u = g v := by
  have a1 : ∀ x y, x < n → Adj start tg x y → y < n := fun x y hx ⟨j, q1, q2, q3⟩ => by rw [← q3]; exact he x hx j q1 q2
  have a2 : ∀ x y, x < n → Adj rs rt x y → y < n := fun x y hx ⟨j, q1, q2, q3⟩ => by rw [← q3]; exact ht.edge x hx j q1 q2
  constructor
  · intro e
    have r1 := reach_turn a1 (fun x y hx hy ha => (ht.turn y x hy hx).2 ha) hu (h1.same u v hu hv e)
    have r2 := reach_turn a1 (fun x y hx hy ha => (ht.turn y x hy hx).2 ha) hv (h1.same v u hv hu e.symm)
    have l1 := (h2.reach_le ht.edge hv r1).2
    have l2 := (h2.reach_le ht.edge hu r2).2
    omega
  · intro e
    have r1 := reach_turn a2 (fun x y hx hy ha => (ht.turn x y hx hy).1 ha) hu (h2.same u v hu hv e)
    have r2 := reach_turn a2 (fun x y hx hy ha => (ht.turn x y hx hy).1 ha) hv (h2.same v u hv hu e.symm)
    have l1 := (h1.reach_le he hv r1).2
    have l2 := (h1.reach_le he hu r2).2
    omega

/-- The memory in which the graph is turned round. -/
structure RM (w3 : World) (P n m : Nat) (rs ps : Nat → Nat) (t : Nat → Int) (wr : World) : Prop where
  r : Row wr w3.heap.size (n + 1) (fun v => vint (rs v))
  t : Row wr P m (fun i => .int .i32 (t i))
  p : Row wr (P + 1) n (fun v => vint (ps v))
  b : Below w3.heap.size w3 wr
  hP : w3.heap.size < P
namespace RM
variable {w3 : World} {P n m : Nat} {rs ps : Nat → Nat} {t : Nat → Int} {wr : World}
theorem setT (h : RM w3 P n m rs ps t wr) (i : Nat) (v : Int) : RM w3 P n m rs ps (fun j => if j = i then v else t j) (wr.setCell ⟨P, i, none⟩ (.int .i32 v)) :=
  ⟨h.r.setOther (by have := h.hP; show w3.heap.size ≠ P; omega) _, (h.t.set i _).congr (fun j _ => by split <;> rfl), h.p.setOther (by simp) _, h.b.setCell (by have := h.hP; show w3.heap.size ≤ P; omega) _, h.hP⟩
theorem setP (h : RM w3 P n m rs ps t wr) (i x : Nat) : RM w3 P n m rs (upd ps i x) t (wr.setCell ⟨P + 1, i, none⟩ (.int .i64 (x : Int))) :=
  ⟨h.r.setOther (by have := h.hP; show w3.heap.size ≠ P + 1; omega) _, h.t.setOther (by simp) _, (h.p.set i _).congr (fun j _ => by unfold upd; split <;> simp_all [vint]), h.b.setCell (by have := h.hP; show w3.heap.size ≤ P + 1; omega) _, h.hP⟩
theorem congrP {ps' : Nat → Nat} (h : RM w3 P n m rs ps t wr) (e : ∀ i, i < n → ps i = ps' i) : RM w3 P n m rs ps' t wr :=
  ⟨h.r, h.t, h.p.congr (fun i hi => by rw [e i hi]), h.b, h.hP⟩
theorem start {rs : Nat → Nat} (n m : Nat) (hb : Below w3.heap.size w3 wr) (hr : Row wr w3.heap.size (n + 1) (fun v => vint (rs v))) : RM w3 wr.heap.size n m rs (fun _ => 0) (fun _ => 0) ((wr.alloc (.cells (madeCells #[.int .i32 0] m) 21)).alloc (.cells (madeCells #[.int .i64 0] n) 3)) := by
  have h2 := Row.made (wr.alloc (.cells (madeCells #[.int .i32 0] m) 21)) (.int .i64 0) n 3
  simp only [World.size_alloc] at h2
  exact ⟨(hr.alloc _).alloc _, (Row.made _ _ _ _).alloc _, h2, (hb.alloc hb.size _).alloc (by simp; have := hb.size; omega) _, hr.lt⟩
end RM

/-- One edge more is placed. -/
theorem rm_place {w3 : World} {P n m : Nat} {rs ps : Nat → Nat} {t : Nat → Int} {wr : World} {es l r : List (Int × Int)} {s y p : Nat} (h : RM w3 P n m rs ps t wr) (hps : ∀ v, v < n → ps v = lowc es (v : Int) + cnt l (v : Int)) (hf : Filled es l t) (hs : s < n)
    (hes : es = l ++ ((s : Int), (y : Int)) :: r) (hp : p = ps s) :
    ∃ ps' t', RM w3 P n m rs ps' t' ((wr.setCell ⟨P, p, none⟩ (.int .i32 (y : Int))).setCell ⟨P + 1, s, none⟩ (.int .i64 ((p : Int) + 1))) ∧ (∀ v, v < n → ps' v = lowc es (v : Int) + cnt (l ++ [((s : Int), (y : Int))]) (v : Int)) ∧ Filled es (l ++ [((s : Int), (y : Int))]) t' := by
  refine ⟨upd ps s (p + 1), _, (h.setT p (y : Int)).setP s (p + 1), fun v hv => ?_, ?_⟩
  · rw [cnt_snoc]
    by_cases e : v = s
    · subst e
      rw [upd_same, if_pos rfl, hp, hps v hv]
      omega
    · rw [upd_other _ _ _ e, if_neg (by show ¬ ((s : Int) = (v : Int)); omega), hps v hv]
      rfl
  · have := filled_step hf hes
    have e : pos es l ((s : Int), (y : Int)) = p := by unfold pos; rw [hp, hps s hs]
    rw [e] at this
    exact this

/-- The two maps between the numberings. -/
structure MM (w5 : World) (X c : Nat) (f g : Nat → Int) (wr : World) : Prop where
  m : Row wr X c (fun v => .int .i64 (f v))
  q : Row wr (X + 1) c (fun v => .int .i64 (g v))
  b : Below w5.heap.size w5 wr
  hX : w5.heap.size ≤ X
namespace MM
variable {w5 : World} {X c : Nat} {f g : Nat → Int} {wr : World}
theorem setF (h : MM w5 X c f g wr) (v : Nat) (a : Int) : MM w5 X c (upd f v a) g (wr.setCell ⟨X, v, none⟩ (.int .i64 a)) :=
  ⟨(h.m.set v _).congr (fun i _ => by unfold upd; split <;> rfl), h.q.setOther (by simp) _, h.b.setCell h.hX _, h.hX⟩
theorem setG (h : MM w5 X c f g wr) (v : Nat) (a : Int) : MM w5 X c f (upd g v a) (wr.setCell ⟨X + 1, v, none⟩ (.int .i64 a)) :=
  ⟨h.m.setOther (by simp) _, (h.q.set v _).congr (fun i _ => by unfold upd; split <;> rfl), h.b.setCell (by have := h.hX; show w5.heap.size ≤ X + 1; omega) _, h.hX⟩
theorem start {w5 wr : World} (n : Nat) (hb : Below w5.heap.size w5 wr) : MM w5 wr.heap.size n (fun _ => 0) (fun _ => 0) ((wr.alloc (.cells (madeCells #[.int .i64 0] n) 3)).alloc (.cells (madeCells #[.int .i64 0] n) 3)) := by
  have h2 := Row.made (wr.alloc (.cells (madeCells #[.int .i64 0] n) 3)) (.int .i64 0) n 3
  simp only [World.size_alloc] at h2
  exact ⟨(Row.made _ _ _ _).alloc _, h2, (hb.alloc hb.size _).alloc (by simp; have := hb.size; omega) _, hb.size⟩
end MM

/-- What a map says of the first v vertices. -/
def Said (v : Nat) (c1 c2 : Nat → Int) (count : Nat) (f : Nat → Int) : Prop := ∀ a : Nat, a < count → (∃ u, u < v ∧ c1 u = (a : Int) ∧ f a = c2 u) ∨ ((∀ u, u < v → c1 u ≠ (a : Int)) ∧ f a = -1)
theorem said_start {c1 c2 : Nat → Int} {count : Nat} {f : Nat → Int} (h : ∀ a, a < count → f a = -1) : Said 0 c1 c2 count f := fun a ha => Or.inr ⟨fun u hu => by omega, h a ha⟩
theorem said_old {v : Nat} {c1 c2 : Nat → Int} {count : Nat} {f : Nat → Int} (h : Said v c1 c2 count f) {u0 : Nat} (hu : u0 < v) (e : c1 u0 = c1 v) : Said (v + 1) c1 c2 count f := by
  intro a ha
  rcases h a ha with ⟨u, h1, h2, h3⟩ | ⟨h1, h2⟩
  · exact Or.inl ⟨u, by omega, h2, h3⟩
  · refine Or.inr ⟨fun u hu2 => ?_, h2⟩
    by_cases e2 : u = v
    · rw [e2, ← e]; exact h1 u0 hu
    · exact h1 u (by omega)
theorem said_new {v : Nat} {c1 c2 : Nat → Int} {count : Nat} {f : Nat → Int} {a0 : Nat} {b : Int} (h : Said v c1 c2 count f) (e : c1 v = (a0 : Int)) (hb : c2 v = b) : Said (v + 1) c1 c2 count (upd f a0 b) := by
  intro a ha
  by_cases ea : a = a0
  · refine Or.inl ⟨v, by omega, by rw [ea]; exact e, ?_⟩
    rw [ea, upd_same, hb]
  · rw [upd_other _ _ _ ea]
    rcases h a ha with ⟨u, h1, h2, h3⟩ | ⟨h1, h2⟩
    · exact Or.inl ⟨u, by omega, h2, h3⟩
    · refine Or.inr ⟨fun u hu2 => ?_, h2⟩
      by_cases e2 : u = v
      · rw [e2, e]; omega
      · exact h1 u (by omega)
theorem said_get {v : Nat} {c1 c2 : Nat → Int} {count : Nat} {f : Nat → Int} (h : Said v c1 c2 count f) {a : Nat} (ha : a < count) {u0 : Nat} (hu : u0 < v) (e : c1 u0 = (a : Int)) : ∃ u, u < v ∧ c1 u = (a : Int) ∧ f a = c2 u := by
  rcases h a ha with h | ⟨h1, _⟩
  · exact h
  · exact absurd e (h1 u0 hu)
theorem said_none {v : Nat} {c1 c2 : Nat → Int} {count : Nat} {f : Nat → Int} (h : Said v c1 c2 count f) {a : Nat} (ha : a < count) (hn : ∀ u, u < v → c1 u ≠ (a : Int)) : f a = -1 := by
  rcases h a ha with ⟨u, h1, h2, _⟩ | ⟨_, h2⟩
  · exact absurd h2 (hn u h1)
  · exact h2

/-- The turned graph in rows of the law's own. -/
theorem rm_rg {w3 : World} {P n m : Nat} {ps : Nat → Nat} {t : Nat → Int} {wr : World} {start tg : Nat → Nat} (hm : ∀ v, v < n → start v ≤ start (v + 1)) (h0 : start 0 ≤ start n) (hmm : m = start n - start 0) (hedge : ∀ u, u < n → ∀ j, start u ≤ j → j < start (u + 1) → tg j < n)
    (h : RM w3 P n m (fun v => lowc (redges start tg n m) (v : Int)) ps t wr) (hf : Filled (redges start tg n m) (redges start tg n m) t) :
    ∃ rs rt, RG n w3.heap.size (some ⟨P, 0, none⟩) m rs rt wr ∧ Turned start tg n rs rt := by
  subst hmm
  obtain ⟨h1, h2⟩ := turned hm h0 hedge hf
  refine ⟨_, _, ⟨h.r, fun j _ hj => ⟨P, rfl, ?_⟩, h1.mono, ?_, h1.edge⟩, h1⟩
  · have hjm : j < start n - start 0 := by have := h1.sn; omega
    rw [h.t.cell hjm]
    obtain ⟨v, hv, e⟩ := h2 j hjm
    rw [e]
    rfl
  · have := h1.sn; omega
end Go.Proofs.Qxb6601391a.TJ
