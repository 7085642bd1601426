/-
  The plain mathematics of 'components': Tarjan's algorithm on explicit stacks. No Go in sight.
-/
namespace Go.Proofs.Qxb6601391a.TJ

/-- u leads to v by k edges. -/
def reachN (A : Nat → Nat → Prop) : Nat → Nat → Nat → Prop
  | 0, u, v => u = v
  | k + 1, u, v => ∃ x, reachN A k u x ∧ A x v
def Reach (A : Nat → Nat → Prop) (u v : Nat) : Prop := ∃ k, reachN A k u v

theorem Reach.refl {A : Nat → Nat → Prop} (u : Nat) : Reach A u u := ⟨0, rfl⟩
theorem Reach.tail {A : Nat → Nat → Prop} {u x v : Nat} (h : Reach A u x) (e : A x v) : Reach A u v := by
  obtain ⟨k, hk⟩ := h
  exact ⟨k + 1, x, hk, e⟩
theorem Reach.one {A : Nat → Nat → Prop} {u v : Nat} (e : A u v) : Reach A u v := (Reach.refl u).tail e
theorem Reach.trans {A : Nat → Nat → Prop} {u x v : Nat} (h : Reach A u x) (h' : Reach A x v) : Reach A u v := by
  obtain ⟨k, hk⟩ := h'
  induction k generalizing v with
  | zero => cases hk; exact h
  | succ k ih =>
    obtain ⟨y, hy, e⟩ := hk
    exact (ih hy).tail e
/-- What holds at u and is handed on by every edge holds wherever u leads. -/
theorem Reach.carry {A : Nat → Nat → Prop} {u v : Nat} (h : Reach A u v) (p : Nat → Prop) (h0 : p u) (hs : ∀ x y, p x → A x y → p y) : p v := by
  obtain ⟨k, hk⟩ := h
  induction k generalizing v with
  | zero => cases hk; exact h0
  | succ k ih =>
    obtain ⟨y, hy, e⟩ := hk
    exact hs _ _ (ih hy) e

/-- The edges of a graph in rows. -/
def Adj (start to : Nat → Nat) (u w : Nat) : Prop := ∃ j, start u ≤ j ∧ j < start (u + 1) ∧ to j = w

/-- A vertex that is being explored, the next of its edges, and the vertices that lie above it on the stack, up to the next such vertex. -/
structure Fr where
  v : Nat
  e : Nat
  rest : List Nat
def Fr.seg (f : Fr) : List Nat := f.v :: f.rest

structure St where
  idx : Nat → Nat
  low : Nat → Nat
  comp : Nat → Int
  fr : List Fr
  reached : Nat
  count : Nat

def upd {α : Type} (f : Nat → α) (i : Nat) (a : α) : Nat → α := fun x => if x = i then a else f x
theorem upd_same {α : Type} (f : Nat → α) (i : Nat) (a : α) : upd f i a i = a := by simp [upd]
theorem upd_other {α : Type} (f : Nat → α) (i : Nat) (a : α) {x : Nat} (h : x ≠ i) : upd f i a x = f x := by simp [upd, h]

/-- How many of the first k vertices are not reached. -/
def whites (idx : Nat → Nat) : Nat → Nat
  | 0 => 0
  | k + 1 => whites idx k + if idx k = 0 then 1 else 0
theorem whites_same {idx idx' : Nat → Nat} {k : Nat} (h : ∀ x, x < k → (idx x = 0 ↔ idx' x = 0)) : whites idx k = whites idx' k := by
  induction k with
  | zero => rfl
  | succ k ih =>
    rw [whites, whites, ih (fun x hx => h x (by omega))]
    by_cases e : idx k = 0
    · rw [if_pos e, if_pos ((h k (by omega)).1 e)]
    · rw [if_neg e, if_neg (fun h' => e ((h k (by omega)).2 h'))]
theorem whites_upd {idx : Nat → Nat} {w a : Nat} (ha : a ≠ 0) (hw : idx w = 0) {k : Nat} (hk : w < k) : whites (upd idx w a) k + 1 = whites idx k := by
  induction k with
  | zero => omega
  | succ k ih =>
    rw [whites, whites]
    by_cases e : w = k
    · subst e
      rw [whites_same (idx := upd idx w a) (idx' := idx) (fun x hx => by rw [upd_other _ _ _ (by omega)]), upd_same, if_neg ha, if_pos hw]
    · have := ih (by omega)
      rw [upd_other _ _ _ (show k ≠ w by omega)]
      omega

/-- How many edges of unreached vertices there are among the first k. -/
def wdeg (start : Nat → Nat) (idx : Nat → Nat) : Nat → Nat
  | 0 => 0
  | k + 1 => wdeg start idx k + if idx k = 0 then start (k + 1) - start k else 0
theorem wdeg_same {start : Nat → Nat} {idx idx' : Nat → Nat} {k : Nat} (h : ∀ x, x < k → (idx x = 0 ↔ idx' x = 0)) : wdeg start idx k = wdeg start idx' k := by
  induction k with
  | zero => rfl
  | succ k ih =>
    rw [wdeg, wdeg, ih (fun x hx => h x (by omega))]
    by_cases e : idx k = 0
    · rw [if_pos e, if_pos ((h k (by omega)).1 e)]
    · rw [if_neg e, if_neg (fun h' => e ((h k (by omega)).2 h'))]
theorem wdeg_upd {start idx : Nat → Nat} {w a : Nat} (ha : a ≠ 0) (hw : idx w = 0) {k : Nat} (hk : w < k) : wdeg start (upd idx w a) k + (start (w + 1) - start w) = wdeg start idx k := by
  induction k with
  | zero => omega
  | succ k ih =>
    rw [wdeg, wdeg]
    by_cases e : w = k
    · subst e
      rw [wdeg_same (idx := upd idx w a) (idx' := idx) (fun x hx => by rw [upd_other _ _ _ (by omega)]), upd_same, if_neg ha, if_pos hw]
      omega
    · have := ih (by omega)
      rw [upd_other _ _ _ (show k ≠ w by omega)]
      omega
/-- How many edges the frames have still to follow. -/
def fdeg (start : Nat → Nat) : List Fr → Nat
  | [] => 0
  | f :: r => (start (f.v + 1) - f.e) + fdeg start r
/-- What every round lowers. -/
def meas (start : Nat → Nat) (n : Nat) (σ : St) : Nat := 2 * (wdeg start σ.idx n + fdeg start σ.fr) + σ.fr.length

/-- The stack, from its bottom on. -/
def stk : List Fr → List Nat
  | [] => []
  | f :: r => stk r ++ f.seg
theorem stk_len (l : List Fr) : l.length ≤ (stk l).length := by
  induction l with
  | nil => simp
  | cons f r ih => simp only [stk, List.length_append, List.length_cons, Fr.seg]; omega

section
variable (n : Nat) (start to : Nat → Nat)

structure Inv (σ : St) : Prop where
  vis : ∀ f ∈ σ.fr, ∀ u ∈ f.seg, u < n ∧ σ.idx u ≠ 0 ∧ σ.comp u = -1
  back : ∀ u, u < n → σ.idx u ≠ 0 → σ.comp u < 0 → ∃ f ∈ σ.fr, u ∈ f.seg
  cl : ∀ u, u < n → σ.idx u ≠ 0 → 0 ≤ σ.comp u → σ.comp u < σ.count
  used : ∀ c, c < σ.count → ∃ u, u < n ∧ σ.idx u ≠ 0 ∧ σ.comp u = c
  le : ∀ u, u < n → σ.idx u ≤ σ.reached
  segs : ∀ f ∈ σ.fr, ∀ u ∈ f.rest, σ.idx f.v < σ.idx u
  sep : σ.fr.Pairwise (fun t d => ∀ u ∈ d.seg, σ.idx u < σ.idx t.v)
  down : σ.fr.Pairwise (fun t d => Reach (Adj start to) d.v t.v)
  conn : ∀ f ∈ σ.fr, ∀ u ∈ f.seg, Reach (Adj start to) f.v u ∧ Reach (Adj start to) u f.v
  lowle : ∀ f ∈ σ.fr, σ.low f.v ≤ σ.idx f.v
  loww : ∀ f ∈ σ.fr, ∃ x, x < n ∧ σ.idx x ≠ 0 ∧ σ.comp x < 0 ∧ σ.idx x = σ.low f.v ∧ Reach (Adj start to) f.v x
  edge : ∀ f ∈ σ.fr, start f.v ≤ f.e ∧ f.e ≤ start (f.v + 1)
  done : ∀ f ∈ σ.fr, ∀ u ∈ f.seg, ∀ j, start u ≤ j → j < (if u = f.v then f.e else start (u + 1)) → σ.idx (to j) ≠ 0 ∧ (0 ≤ σ.comp (to j) ∨ σ.low f.v ≤ σ.idx (to j))
  csucc : ∀ u, u < n → σ.idx u ≠ 0 → 0 ≤ σ.comp u → ∀ j, start u ≤ j → j < start (u + 1) → σ.idx (to j) ≠ 0 ∧ 0 ≤ σ.comp (to j) ∧ σ.comp (to j) ≤ σ.comp u
  csame : ∀ u v, u < n → v < n → σ.idx u ≠ 0 → σ.idx v ≠ 0 → 0 ≤ σ.comp u → σ.comp u = σ.comp v → Reach (Adj start to) u v
  num : σ.count + σ.fr.length ≤ σ.reached
  stn : (stk σ.fr).length ≤ σ.reached
  all : σ.reached + whites σ.idx n = n
end

section
variable {n : Nat} {start to : Nat → Nat}

/-- The start: nothing is reached. -/
theorem inv_start : Inv n start to ⟨fun _ => 0, fun _ => 0, fun _ => 0, [], 0, 0⟩ := by
  have hw : ∀ k, whites (fun _ => 0) k = k := by
    intro k
    induction k with
    | zero => rfl
    | succ k ih => rw [whites, ih, if_pos rfl]
  refine ⟨?_, ?_, ?_, ?_, ?_, ?_, ?_, ?_, ?_, ?_, ?_, ?_, ?_, ?_, ?_, ?_, ?_, ?_⟩
  all_goals simp [stk]
  exact hw n

/-- The vertex w is reached: at the head of 'fr', of which the frames 'fr' are all. -/
def visit (start : Nat → Nat) (w : Nat) (σ : St) (fr : List Fr) : St :=
  ⟨upd σ.idx w (σ.reached + 1), upd σ.low w (σ.reached + 1), upd σ.comp w (-1), ⟨w, start w, []⟩ :: fr, σ.reached + 1, σ.count⟩

/-- A relation that holds between the frames of a list carries over to another relation. -/
theorem pw_mem {R S : Fr → Fr → Prop} {l : List Fr} (h : l.Pairwise R) (hs : ∀ a b, a ∈ l → b ∈ l → R a b → S a b) : l.Pairwise S := by
  induction l with
  | nil => exact List.Pairwise.nil
  | cons f r ih =>
    obtain ⟨h1, h2⟩ := List.pairwise_cons.1 h
    exact List.pairwise_cons.2 ⟨fun d hd => hs f d (by simp) (by simp [hd]) (h1 d hd), ih h2 (fun a b ha hb => hs a b (by simp [ha]) (by simp [hb]))⟩

/-- A new vertex is reached; 'fr' are the frames beneath it. -/
theorem inv_push {σ : St} (h : Inv n start to σ) {w : Nat} {fr : List Fr} (hw : w < n) (h0 : σ.idx w = 0) (hmono : start w ≤ start (w + 1))
    (hlen : fr.length = σ.fr.length) (hstk : (stk fr).length = (stk σ.fr).length)
    (hfr : ∀ f' ∈ fr, ∃ f ∈ σ.fr, f'.v = f.v ∧ f'.rest = f.rest ∧ (f'.e = f.e ∨ (f'.e = f.e + 1 ∧ f.e < start (f.v + 1) ∧ to f.e = w)))
    (hto : ∀ f ∈ σ.fr, ∃ f' ∈ fr, f'.v = f.v ∧ f'.rest = f.rest)
    (hsep : fr.Pairwise (fun t d => ∀ u ∈ d.seg, σ.idx u < σ.idx t.v)) (hdown : fr.Pairwise (fun t d => Reach (Adj start to) d.v t.v)) (hnew : ∀ d ∈ fr, Reach (Adj start to) d.v w) :
    Inv n start to (visit start w σ fr) := by
  have hseg : ∀ f' ∈ fr, ∃ f ∈ σ.fr, f'.v = f.v ∧ f'.seg = f.seg := by
    intro f' hf'
    obtain ⟨f, hf, e1, e2, _⟩ := hfr f' hf'
    exact ⟨f, hf, e1, by simp [Fr.seg, e1, e2]⟩
  have hne : ∀ f' ∈ fr, ∀ u ∈ f'.seg, u ≠ w := by
    intro f' hf' u hu e
    obtain ⟨f, hf, _, e2⟩ := hseg f' hf'
    have := (h.vis f hf u (e2 ▸ hu)).2.1
    rw [e] at this
    exact this h0
  have hnv : ∀ f' ∈ fr, f'.v ≠ w := fun f' hf' => hne f' hf' f'.v (by simp [Fr.seg])
  have hidx : ∀ u, u ≠ w → (visit start w σ fr).idx u = σ.idx u := fun u hu => upd_other _ _ _ hu
  have hlow : ∀ u, u ≠ w → (visit start w σ fr).low u = σ.low u := fun u hu => upd_other _ _ _ hu
  have hcmp : ∀ u, u ≠ w → (visit start w σ fr).comp u = σ.comp u := fun u hu => upd_other _ _ _ hu
  have hiw : (visit start w σ fr).idx w = σ.reached + 1 := upd_same _ _ _
  have hlw : (visit start w σ fr).low w = σ.reached + 1 := upd_same _ _ _
  have hcw : (visit start w σ fr).comp w = -1 := upd_same _ _ _
  have hmem : ∀ f', f' ∈ (visit start w σ fr).fr → f' = ⟨w, start w, []⟩ ∨ f' ∈ fr := fun f' hf' => by simpa [visit] using hf'
  have hvis : ∀ u, σ.idx u ≠ 0 → u ≠ w := fun u hu e => by rw [e] at hu; exact hu h0
  refine ⟨?_, ?_, ?_, ?_, ?_, ?_, ?_, ?_, ?_, ?_, ?_, ?_, ?_, ?_, ?_, ?_, ?_, ?_⟩
  · intro f' hf' u hu
    rcases hmem f' hf' with rfl | hf'
    · simp [Fr.seg] at hu
      subst hu
      exact ⟨hw, by rw [hiw]; omega, hcw⟩
    · obtain ⟨f, hf, _, e2⟩ := hseg f' hf'
      have hu' := hne f' hf' u hu
      rw [hidx u hu', hcmp u hu']
      exact h.vis f hf u (e2 ▸ hu)
  · intro u hu hi hc
    by_cases e : u = w
    · exact ⟨⟨w, start w, []⟩, by simp [visit], by simp [Fr.seg, e]⟩
    · rw [hidx u e] at hi
      rw [hcmp u e] at hc
      obtain ⟨f, hf, hs⟩ := h.back u hu hi hc
      obtain ⟨f', hf', e1, e2⟩ := hto f hf
      exact ⟨f', by simp [visit, hf'], by simpa [Fr.seg, e1, e2] using hs⟩
  · intro u hu hi hc
    by_cases e : u = w
    · rw [e, hcw] at hc; omega
    · rw [hidx u e] at hi
      rw [hcmp u e] at hc ⊢
      exact h.cl u hu hi hc
  · intro c hc
    obtain ⟨u, hu, hi, hcu⟩ := h.used c hc
    have e := hvis u hi
    exact ⟨u, hu, by rw [hidx u e]; exact hi, by rw [hcmp u e]; exact hcu⟩
  · intro u hu
    show _ ≤ σ.reached + 1
    by_cases e : u = w
    · rw [e, hiw]; omega
    · rw [hidx u e]; have := h.le u hu; omega
  · intro f' hf' u hu
    rcases hmem f' hf' with rfl | hf'
    · simp at hu
    · obtain ⟨f, hf, e1, e2, _⟩ := hfr f' hf'
      have hu' := hne f' hf' u (by simp [Fr.seg, hu])
      rw [hidx _ (hnv f' hf'), hidx u hu', e1]
      exact h.segs f hf u (e2 ▸ hu)
  · refine List.pairwise_cons.2 ⟨?_, pw_mem hsep ?_⟩
    · intro d hd u hu
      rw [hiw, hidx u (hne d hd u hu)]
      obtain ⟨f, hf, _, e2⟩ := hseg d hd
      have := h.le u (h.vis f hf u (e2 ▸ hu)).1
      omega
    · intro t d ht hd hr u hu
      rw [hidx u (hne d hd u hu), hidx _ (hnv t ht)]
      exact hr u hu
  · exact List.pairwise_cons.2 ⟨hnew, hdown⟩
  · intro f' hf' u hu
    rcases hmem f' hf' with rfl | hf'
    · simp [Fr.seg] at hu
      subst hu
      exact ⟨Reach.refl _, Reach.refl _⟩
    · obtain ⟨f, hf, e1, e2⟩ := hseg f' hf'
      rw [e1]
      exact h.conn f hf u (e2 ▸ hu)
  · intro f' hf'
    rcases hmem f' hf' with rfl | hf'
    · show (visit start w σ fr).low w ≤ (visit start w σ fr).idx w
      rw [hlw, hiw]; omega
    · obtain ⟨f, hf, e1, e2⟩ := hseg f' hf'
      rw [hlow _ (hnv f' hf'), hidx _ (hnv f' hf'), e1]
      exact h.lowle f hf
  · intro f' hf'
    rcases hmem f' hf' with rfl | hf'
    · exact ⟨w, hw, by rw [hiw]; omega, by rw [hcw]; omega, by show _ = (visit start w σ fr).low w; rw [hiw, hlw], Reach.refl _⟩
    · obtain ⟨f, hf, e1, e2⟩ := hseg f' hf'
      obtain ⟨x, q1, q2, q3, q4, q5⟩ := h.loww f hf
      have e := hvis x q2
      exact ⟨x, q1, by rw [hidx x e]; exact q2, by rw [hcmp x e]; exact q3, by rw [hidx x e, hlow _ (hnv f' hf'), e1]; exact q4, by rw [e1]; exact q5⟩
  · intro f' hf'
    rcases hmem f' hf' with rfl | hf'
    · exact ⟨Nat.le_refl _, hmono⟩
    · obtain ⟨f, hf, e1, e2, e3⟩ := hfr f' hf'
      have := h.edge f hf
      rw [e1]
      omega
  · intro f' hf' u hu j hj1 hj2
    rcases hmem f' hf' with rfl | hf'
    · simp [Fr.seg] at hu
      subst hu
      simp at hj2
      omega
    · obtain ⟨f, hf, e1, e2, e3⟩ := hfr f' hf'
      have hs : f'.seg = f.seg := by simp [Fr.seg, e1, e2]
      have hl := hnv f' hf'
      rw [hlow _ hl, e1]
      have old : j < (if u = f.v then f.e else start (u + 1)) → (visit start w σ fr).idx (to j) ≠ 0 ∧ (0 ≤ (visit start w σ fr).comp (to j) ∨ σ.low f.v ≤ (visit start w σ fr).idx (to j)) := by
        intro hj3
        have hd := h.done f hf u (hs ▸ hu) j hj1 hj3
        have e := hvis _ hd.1
        rw [hidx _ e, hcmp _ e]
        exact hd
      by_cases e : u = f'.v
      · rw [if_pos e] at hj2
        rcases e3 with e3 | ⟨e3, e4, e5⟩
        · exact old (by rw [if_pos (by rw [e, e1]), ← e3]; exact hj2)
        · by_cases hj : j < f.e
          · exact old (by rw [if_pos (by rw [e, e1])]; exact hj)
          · obtain rfl : j = f.e := by omega
            rw [e5, hiw]
            have := h.lowle f hf
            have := h.le f.v (h.vis f hf f.v (by simp [Fr.seg])).1
            exact ⟨by omega, Or.inr (by omega)⟩
      · rw [if_neg e] at hj2
        exact old (by rw [if_neg (by rw [← e1]; exact e)]; exact hj2)
  · intro u hu hi hc j hj1 hj2
    have e : u ≠ w := by intro e; rw [e, hcw] at hc; omega
    rw [hidx u e] at hi
    rw [hcmp u e] at hc ⊢
    have hd := h.csucc u hu hi hc j hj1 hj2
    have e2 := hvis _ hd.1
    rw [hidx _ e2, hcmp _ e2]
    exact hd
  · intro u v hu hv hi hi2 hc he
    have e : u ≠ w := by intro e; rw [e, hcw] at hc; omega
    have e2 : v ≠ w := by intro e2; rw [e2, hcw] at he; omega
    rw [hidx u e] at hi
    rw [hidx v e2] at hi2
    rw [hcmp u e] at hc he
    rw [hcmp v e2] at he
    exact h.csame u v hu hv hi hi2 hc he
  · have := h.num
    simp only [visit, List.length_cons]
    omega
  · have := h.stn
    simp only [visit, stk, List.length_append, Fr.seg, List.length_cons, List.length_nil]
    omega
  · have h1 := h.all
    have h2 := whites_upd (idx := σ.idx) (a := σ.reached + 1) (by omega) h0 hw
    simp only [visit]
    omega

/-- A root is reached. -/
theorem inv_root {σ : St} (h : Inv n start to σ) {w : Nat} (hfr : σ.fr = []) (hw : w < n) (h0 : σ.idx w = 0) (hmono : start w ≤ start (w + 1)) : Inv n start to (visit start w σ []) :=
  inv_push h hw h0 hmono (by rw [hfr]) (by rw [hfr]) (by simp) (by rw [hfr]; simp) List.Pairwise.nil List.Pairwise.nil (by simp)

/-- A vertex is reached by the next edge of the topmost frame. -/
theorem inv_visit {σ : St} (h : Inv n start to σ) {f : Fr} {r : List Fr} {w : Nat} (hfr : σ.fr = f :: r) (he : f.e < start (f.v + 1)) (hto : to f.e = w) (hw : w < n) (h0 : σ.idx w = 0) (hmono : start w ≤ start (w + 1)) :
    Inv n start to (visit start w σ (⟨f.v, f.e + 1, f.rest⟩ :: r)) := by
  have hsep := h.sep
  have hdown := h.down
  rw [hfr] at hsep hdown
  obtain ⟨s1, s2⟩ := List.pairwise_cons.1 hsep
  obtain ⟨d1, d2⟩ := List.pairwise_cons.1 hdown
  have hadj : Adj start to f.v w := ⟨f.e, (h.edge f (by rw [hfr]; simp)).1, he, hto⟩
  refine inv_push h hw h0 hmono (by rw [hfr]; rfl) (by rw [hfr]; rfl) ?_ ?_ (List.pairwise_cons.2 ⟨s1, s2⟩) (List.pairwise_cons.2 ⟨d1, d2⟩) ?_
  · intro f' hf'
    rcases List.mem_cons.1 hf' with rfl | hf'
    · exact ⟨f, by rw [hfr]; simp, rfl, rfl, Or.inr ⟨rfl, he, hto⟩⟩
    · exact ⟨f', by rw [hfr]; simp [hf'], rfl, rfl, Or.inl rfl⟩
  · intro f' hf'
    rw [hfr] at hf'
    rcases List.mem_cons.1 hf' with rfl | hf'
    · exact ⟨_, List.mem_cons_self, rfl, rfl⟩
    · exact ⟨f', by simp [hf'], rfl, rfl⟩
  · intro d hd
    rcases List.mem_cons.1 hd with rfl | hd
    · exact Reach.one hadj
    · exact (d1 d hd).tail hadj

/-- The next edge of the topmost frame leads to a vertex that is reached already. -/
theorem inv_adv {σ : St} (h : Inv n start to σ) {f : Fr} {r : List Fr} {low' : Nat → Nat} (hfr : σ.fr = f :: r) (he : f.e < start (f.v + 1)) (hto : to f.e < n) (h0 : σ.idx (to f.e) ≠ 0)
    (hl : low' f.v ≤ σ.low f.v) (ho : ∀ d ∈ r, low' d.v = σ.low d.v) (hd : 0 ≤ σ.comp (to f.e) ∨ low' f.v ≤ σ.idx (to f.e)) (hx : low' f.v = σ.low f.v ∨ (low' f.v = σ.idx (to f.e) ∧ σ.comp (to f.e) < 0)) :
    Inv n start to ⟨σ.idx, low', σ.comp, ⟨f.v, f.e + 1, f.rest⟩ :: r, σ.reached, σ.count⟩ := by
  have hf : f ∈ σ.fr := by rw [hfr]; simp
  have hr : ∀ d ∈ r, d ∈ σ.fr := fun d hd => by rw [hfr]; simp [hd]
  have hsep := h.sep
  have hdown := h.down
  rw [hfr] at hsep hdown
  obtain ⟨s1, s2⟩ := List.pairwise_cons.1 hsep
  obtain ⟨d1, d2⟩ := List.pairwise_cons.1 hdown
  have hm : ∀ f', f' ∈ (⟨f.v, f.e + 1, f.rest⟩ :: r : List Fr) → f' = ⟨f.v, f.e + 1, f.rest⟩ ∨ f' ∈ r := fun f' hf' => List.mem_cons.1 hf'
  refine ⟨?_, ?_, h.cl, h.used, h.le, ?_, List.pairwise_cons.2 ⟨s1, s2⟩, List.pairwise_cons.2 ⟨d1, d2⟩, ?_, ?_, ?_, ?_, ?_, h.csucc, h.csame, ?_, ?_, h.all⟩
  · intro f' hf' u hu
    rcases hm f' hf' with rfl | hf'
    · exact h.vis f hf u hu
    · exact h.vis f' (hr f' hf') u hu
  · intro u hu hi hc
    obtain ⟨f', hf', hs⟩ := h.back u hu hi hc
    rw [hfr] at hf'
    rcases List.mem_cons.1 hf' with rfl | hf'
    · exact ⟨_, List.mem_cons_self, hs⟩
    · exact ⟨f', by simp [hf'], hs⟩
  · intro f' hf' u hu
    rcases hm f' hf' with rfl | hf'
    · exact h.segs f hf u hu
    · exact h.segs f' (hr f' hf') u hu
  · intro f' hf' u hu
    rcases hm f' hf' with rfl | hf'
    · exact h.conn f hf u hu
    · exact h.conn f' (hr f' hf') u hu
  · intro f' hf'
    rcases hm f' hf' with rfl | hf'
    · exact Nat.le_trans hl (h.lowle f hf)
    · show low' f'.v ≤ _
      rw [ho f' hf']
      exact h.lowle f' (hr f' hf')
  · intro f' hf'
    rcases hm f' hf' with rfl | hf'
    · rcases hx with hx | ⟨hx, hc⟩
      · obtain ⟨x, q1, q2, q3, q4, q5⟩ := h.loww f hf
        exact ⟨x, q1, q2, q3, q4.trans hx.symm, q5⟩
      · exact ⟨to f.e, hto, h0, hc, hx.symm, Reach.one ⟨f.e, (h.edge f hf).1, he, rfl⟩⟩
    · obtain ⟨x, q1, q2, q3, q4, q5⟩ := h.loww f' (hr f' hf')
      exact ⟨x, q1, q2, q3, by rw [q4]; exact (ho f' hf').symm, q5⟩
  · intro f' hf'
    rcases hm f' hf' with rfl | hf'
    · have := h.edge f hf
      exact ⟨by show start f.v ≤ f.e + 1; omega, by show f.e + 1 ≤ start (f.v + 1); omega⟩
    · exact h.edge f' (hr f' hf')
  · intro f' hf' u hu j hj1 hj2
    rcases hm f' hf' with rfl | hf'
    · have old : j < (if u = f.v then f.e else start (u + 1)) → σ.idx (to j) ≠ 0 ∧ (0 ≤ σ.comp (to j) ∨ low' f.v ≤ σ.idx (to j)) := by
        intro hj3
        have := h.done f hf u hu j hj1 hj3
        refine ⟨this.1, ?_⟩
        rcases this.2 with q | q
        · exact Or.inl q
        · exact Or.inr (Nat.le_trans hl q)
      by_cases e : u = f.v
      · have hj3 : j < f.e + 1 := by simpa [e] using hj2
        by_cases hj : j < f.e
        · exact old (by rw [if_pos e]; exact hj)
        · obtain rfl : j = f.e := by omega
          exact ⟨h0, hd⟩
      · exact old (by rw [if_neg e]; simpa [e] using hj2)
    · show _ ∧ (_ ∨ low' f'.v ≤ _)
      rw [ho f' hf']
      exact h.done f' (hr f' hf') u hu j hj1 hj2
  · have := h.num
    rw [hfr] at this
    exact this
  · have := h.stn
    rw [hfr] at this
    exact this

/-- The topmost frame has no edge left, and something beneath it is reached from it: it is laid upon the frame beneath. -/
theorem inv_merge {σ : St} (h : Inv n start to σ) {f p : Fr} {r : List Fr} {low' : Nat → Nat} (hfr : σ.fr = f :: p :: r) (he : f.e = start (f.v + 1)) (hne : σ.low f.v ≠ σ.idx f.v)
    (hl : low' p.v = min (σ.low p.v) (σ.low f.v)) (ho : ∀ d ∈ r, low' d.v = σ.low d.v) :
    Inv n start to ⟨σ.idx, low', σ.comp, ⟨p.v, p.e, p.rest ++ f.seg⟩ :: r, σ.reached, σ.count⟩ := by
  have hf : f ∈ σ.fr := by rw [hfr]; simp
  have hp : p ∈ σ.fr := by rw [hfr]; simp
  have hr : ∀ d ∈ r, d ∈ σ.fr := fun d hd => by rw [hfr]; simp [hd]
  have hsep := h.sep
  have hdown := h.down
  rw [hfr] at hsep hdown
  obtain ⟨s1, s2⟩ := List.pairwise_cons.1 hsep
  obtain ⟨d1, d2⟩ := List.pairwise_cons.1 hdown
  obtain ⟨s3, s4⟩ := List.pairwise_cons.1 s2
  obtain ⟨d3, d4⟩ := List.pairwise_cons.1 d2
  have hseg : (⟨p.v, p.e, p.rest ++ f.seg⟩ : Fr).seg = p.seg ++ f.seg := by simp [Fr.seg]
  have hm : ∀ f', f' ∈ (⟨p.v, p.e, p.rest ++ f.seg⟩ :: r : List Fr) → f' = ⟨p.v, p.e, p.rest ++ f.seg⟩ ∨ f' ∈ r := fun f' hf' => List.mem_cons.1 hf'
  have hpf : Reach (Adj start to) p.v f.v := d1 p (by simp)
  -- f leads back to p
  have hfp : Reach (Adj start to) f.v p.v := by
    obtain ⟨x, q1, q2, q3, q4, q5⟩ := h.loww f hf
    have hlt : σ.idx x < σ.idx f.v := by have := h.lowle f hf; omega
    obtain ⟨g, hg, hxg⟩ := h.back x q1 q2 q3
    rw [hfr] at hg
    rcases List.mem_cons.1 hg with rfl | hg
    · exfalso
      rcases List.mem_cons.1 hxg with rfl | hxr
      · omega
      · have := h.segs g hf x hxr; omega
    · have c1 := (h.conn g (by rw [hfr]; simp [hg]) x hxg).2
      rcases List.mem_cons.1 hg with rfl | hg
      · exact q5.trans c1
      · exact (q5.trans c1).trans (d3 g hg)
  have hpv : σ.idx p.v < σ.idx f.v := s1 p (by simp) p.v (by simp [Fr.seg])
  refine ⟨?_, ?_, h.cl, h.used, h.le, ?_, List.pairwise_cons.2 ⟨s3, s4⟩, List.pairwise_cons.2 ⟨d3, d4⟩, ?_, ?_, ?_, ?_, ?_, h.csucc, h.csame, ?_, ?_, h.all⟩
  · intro f' hf' u hu
    rcases hm f' hf' with rfl | hf'
    · rw [hseg, List.mem_append] at hu
      rcases hu with hu | hu
      · exact h.vis p hp u hu
      · exact h.vis f hf u hu
    · exact h.vis f' (hr f' hf') u hu
  · intro u hu hi hc
    obtain ⟨f', hf', hs⟩ := h.back u hu hi hc
    rw [hfr] at hf'
    rcases List.mem_cons.1 hf' with rfl | hf'
    · exact ⟨_, List.mem_cons_self, by rw [hseg]; simp [hs]⟩
    · rcases List.mem_cons.1 hf' with rfl | hf'
      · exact ⟨_, List.mem_cons_self, by rw [hseg]; simp [hs]⟩
      · exact ⟨f', by simp [hf'], hs⟩
  · intro f' hf' u hu
    rcases hm f' hf' with rfl | hf'
    · rcases List.mem_append.1 hu with hu | hu
      · exact h.segs p hp u hu
      · show σ.idx p.v < σ.idx u
        rcases List.mem_cons.1 hu with rfl | hu
        · exact hpv
        · exact Nat.lt_trans hpv (h.segs f hf u hu)
    · exact h.segs f' (hr f' hf') u hu
  · intro f' hf' u hu
    rcases hm f' hf' with rfl | hf'
    · rw [hseg, List.mem_append] at hu
      rcases hu with hu | hu
      · exact h.conn p hp u hu
      · have c := h.conn f hf u hu
        exact ⟨hpf.trans c.1, c.2.trans hfp⟩
    · exact h.conn f' (hr f' hf') u hu
  · intro f' hf'
    rcases hm f' hf' with rfl | hf'
    · show low' p.v ≤ σ.idx p.v
      have := h.lowle p hp
      omega
    · show low' f'.v ≤ _
      rw [ho f' hf']
      exact h.lowle f' (hr f' hf')
  · intro f' hf'
    rcases hm f' hf' with rfl | hf'
    · show ∃ x, x < n ∧ σ.idx x ≠ 0 ∧ σ.comp x < 0 ∧ σ.idx x = low' p.v ∧ Reach (Adj start to) p.v x
      by_cases hc : σ.low p.v ≤ σ.low f.v
      · obtain ⟨x, q1, q2, q3, q4, q5⟩ := h.loww p hp
        exact ⟨x, q1, q2, q3, by omega, q5⟩
      · obtain ⟨x, q1, q2, q3, q4, q5⟩ := h.loww f hf
        exact ⟨x, q1, q2, q3, by omega, hpf.trans q5⟩
    · obtain ⟨x, q1, q2, q3, q4, q5⟩ := h.loww f' (hr f' hf')
      exact ⟨x, q1, q2, q3, by rw [q4]; exact (ho f' hf').symm, q5⟩
  · intro f' hf'
    rcases hm f' hf' with rfl | hf'
    · exact h.edge p hp
    · exact h.edge f' (hr f' hf')
  · intro f' hf' u hu j hj1 hj2
    rcases hm f' hf' with rfl | hf'
    · show σ.idx (to j) ≠ 0 ∧ (0 ≤ σ.comp (to j) ∨ low' p.v ≤ σ.idx (to j))
      rw [hseg, List.mem_append] at hu
      rcases hu with hu | hu
      · obtain ⟨q1, q2⟩ := h.done p hp u hu j hj1 hj2
        refine ⟨q1, ?_⟩
        rcases q2 with q | q
        · exact Or.inl q
        · exact Or.inr (by omega)
      · have hup : u ≠ p.v := by
          intro e
          rcases List.mem_cons.1 hu with e2 | e2
          · rw [← e2, e] at hpv; omega
          · have := h.segs f hf u e2; rw [e] at this; omega
        have hj3 : j < start (u + 1) := by
          have hj4 : j < (if u = p.v then p.e else start (u + 1)) := hj2
          rwa [if_neg hup] at hj4
        obtain ⟨q1, q2⟩ := h.done f hf u hu j hj1 (by
          by_cases e : u = f.v
          · rw [if_pos e, he, ← e]; exact hj3
          · rw [if_neg e]; exact hj3)
        refine ⟨q1, ?_⟩
        rcases q2 with q | q
        · exact Or.inl q
        · exact Or.inr (by omega)
    · show _ ∧ (_ ∨ low' f'.v ≤ _)
      rw [ho f' hf']
      exact h.done f' (hr f' hf') u hu j hj1 hj2
  · have := h.num
    rw [hfr] at this
    simp only [List.length_cons] at this ⊢
    omega
  · have := h.stn
    rw [hfr] at this
    simp only [stk, hseg, List.length_append] at this ⊢
    omega

/-- The topmost frame has no edge left, and nothing beneath it is reached from it: its vertices are a component. -/
theorem inv_close {σ : St} (h : Inv n start to σ) {f : Fr} {r : List Fr} {low' : Nat → Nat} {comp' : Nat → Int} (hfr : σ.fr = f :: r) (he : f.e = start (f.v + 1)) (heq : σ.low f.v = σ.idx f.v)
    (ho : ∀ d ∈ r, low' d.v = σ.low d.v) (hc1 : ∀ u ∈ f.seg, comp' u = σ.count) (hc2 : ∀ u, u ∉ f.seg → comp' u = σ.comp u) (hedge : ∀ u, u < n → ∀ j, start u ≤ j → j < start (u + 1) → to j < n) :
    Inv n start to ⟨σ.idx, low', comp', r, σ.reached, σ.count + 1⟩ := by
  have hf : f ∈ σ.fr := by rw [hfr]; simp
  have hr : ∀ d ∈ r, d ∈ σ.fr := fun d hd => by rw [hfr]; simp [hd]
  have hsep := h.sep
  have hdown := h.down
  rw [hfr] at hsep hdown
  obtain ⟨s1, s2⟩ := List.pairwise_cons.1 hsep
  obtain ⟨d1, d2⟩ := List.pairwise_cons.1 hdown
  have hge : ∀ u ∈ f.seg, σ.idx f.v ≤ σ.idx u := by
    intro u hu
    rcases List.mem_cons.1 hu with rfl | hu
    · exact Nat.le_refl _
    · exact Nat.le_of_lt (h.segs f hf u hu)
  have hout : ∀ d ∈ r, ∀ u ∈ d.seg, u ∉ f.seg := by
    intro d hd u hu hu2
    have := s1 d hd u hu
    have := hge u hu2
    omega
  have hclosed : ∀ u, σ.idx u ≠ 0 → 0 ≤ σ.comp u → u ∉ f.seg := by
    intro u _ hc hu
    have := (h.vis f hf u hu).2.2
    omega
  -- what the vertices of the component lead to
  have hsucc : ∀ u ∈ f.seg, ∀ j, start u ≤ j → j < start (u + 1) → σ.idx (to j) ≠ 0 ∧ (0 ≤ σ.comp (to j) ∨ to j ∈ f.seg) := by
    intro u hu j hj1 hj2
    obtain ⟨q1, q2⟩ := h.done f hf u hu j hj1 (by
      by_cases e : u = f.v
      · rw [if_pos e, he, ← e]; exact hj2
      · rw [if_neg e]; exact hj2)
    refine ⟨q1, ?_⟩
    by_cases hc : 0 ≤ σ.comp (to j)
    · exact Or.inl hc
    · right
      have hle : σ.low f.v ≤ σ.idx (to j) := by
        rcases q2 with q | q
        · exact absurd q hc
        · exact q
      obtain ⟨g, hg, hs⟩ := h.back (to j) (hedge u (h.vis f hf u hu).1 j hj1 hj2) q1 (by omega)
      rw [hfr] at hg
      rcases List.mem_cons.1 hg with rfl | hg
      · exact hs
      · have := s1 g hg _ hs; omega
  refine ⟨?_, ?_, ?_, ?_, h.le, fun f' hf' => h.segs f' (hr f' hf'), s2, d2, fun f' hf' => h.conn f' (hr f' hf'), ?_, ?_, fun f' hf' => h.edge f' (hr f' hf'), ?_, ?_, ?_, ?_, ?_, h.all⟩
  · intro f' hf' u hu
    show u < n ∧ σ.idx u ≠ 0 ∧ comp' u = -1
    rw [hc2 u (hout f' hf' u hu)]
    exact h.vis f' (hr f' hf') u hu
  · intro u hu hi hc
    have hn : u ∉ f.seg := by
      intro hu2
      have hc' : comp' u < 0 := hc
      rw [hc1 u hu2] at hc'
      omega
    have hc' : comp' u < 0 := hc
    rw [hc2 u hn] at hc'
    obtain ⟨f', hf', hs⟩ := h.back u hu hi hc'
    rw [hfr] at hf'
    rcases List.mem_cons.1 hf' with rfl | hf'
    · exact absurd hs hn
    · exact ⟨f', hf', hs⟩
  · intro u hu hi hc
    show comp' u < ((σ.count + 1 : Nat) : Int)
    by_cases hs : u ∈ f.seg
    · rw [hc1 u hs]; omega
    · have hc' : 0 ≤ comp' u := hc
      rw [hc2 u hs] at hc' ⊢
      have := h.cl u hu hi hc'
      omega
  · intro c hc
    by_cases e : c = σ.count
    · exact ⟨f.v, (h.vis f hf f.v (by simp [Fr.seg])).1, (h.vis f hf f.v (by simp [Fr.seg])).2.1, by show comp' f.v = c; rw [hc1 f.v (by simp [Fr.seg]), e]⟩
    · have hc' : c < σ.count + 1 := hc
      obtain ⟨u, hu, hi, hcu⟩ := h.used c (by omega)
      exact ⟨u, hu, hi, by show comp' u = c; rw [hc2 u (hclosed u hi (by omega))]; exact hcu⟩
  · intro f' hf'
    show low' f'.v ≤ _
    rw [ho f' hf']
    exact h.lowle f' (hr f' hf')
  · intro f' hf'
    obtain ⟨x, q1, q2, q3, q4, q5⟩ := h.loww f' (hr f' hf')
    refine ⟨x, q1, q2, ?_, by rw [q4]; exact (ho f' hf').symm, q5⟩
    show comp' x < 0
    have hn : x ∉ f.seg := by
      intro hx
      have h1 := hge x hx
      have h2 := h.lowle f' (hr f' hf')
      have h3 := s1 f' hf' f'.v (by simp [Fr.seg])
      omega
    rw [hc2 x hn]
    exact q3
  · intro f' hf' u hu j hj1 hj2
    obtain ⟨q1, q2⟩ := h.done f' (hr f' hf') u hu j hj1 hj2
    refine ⟨q1, ?_⟩
    show 0 ≤ comp' (to j) ∨ low' f'.v ≤ σ.idx (to j)
    rw [ho f' hf']
    by_cases hs : to j ∈ f.seg
    · exact Or.inl (by rw [hc1 _ hs]; omega)
    · rw [hc2 _ hs]; exact q2
  · intro u hu hi hc j hj1 hj2
    show σ.idx (to j) ≠ 0 ∧ 0 ≤ comp' (to j) ∧ comp' (to j) ≤ comp' u
    by_cases hs : u ∈ f.seg
    · obtain ⟨q1, q2⟩ := hsucc u hs j hj1 hj2
      rw [hc1 u hs]
      by_cases hs2 : to j ∈ f.seg
      · rw [hc1 _ hs2]; exact ⟨q1, by omega, by omega⟩
      · rw [hc2 _ hs2]
        rcases q2 with q | q
        · have := h.cl (to j) (hedge u hu j hj1 hj2) q1 q
          exact ⟨q1, q, by omega⟩
        · exact absurd q hs2
    · have hc' : 0 ≤ comp' u := hc
      rw [hc2 u hs] at hc' ⊢
      obtain ⟨q1, q2, q3⟩ := h.csucc u hu hi hc' j hj1 hj2
      rw [hc2 _ (hclosed _ q1 q2)]
      exact ⟨q1, q2, q3⟩
  · intro u v hu hv hi hi2 hc heq2
    have hc' : 0 ≤ comp' u := hc
    have heq' : comp' u = comp' v := heq2
    by_cases hs : u ∈ f.seg
    · by_cases hs2 : v ∈ f.seg
      · exact (h.conn f hf u hs).2.trans (h.conn f hf v hs2).1
      · rw [hc1 u hs, hc2 v hs2] at heq'
        have := h.cl v hv hi2 (by omega)
        omega
    · by_cases hs2 : v ∈ f.seg
      · rw [hc2 u hs, hc1 v hs2] at heq'
        rw [hc2 u hs] at hc'
        have := h.cl u hu hi hc'
        omega
      · rw [hc2 u hs] at hc' heq'
        rw [hc2 v hs2] at heq'
        exact h.csame u v hu hv hi hi2 hc' heq'
  · have := h.num
    rw [hfr] at this
    simp only [List.length_cons] at this ⊢
    omega
  · have := h.stn
    rw [hfr] at this
    simp only [stk, List.length_append] at this ⊢
    omega

/-- The frames beneath have other vertices. -/
theorem other_v {σ : St} (h : Inv n start to σ) {f : Fr} {r : List Fr} (hfr : σ.fr = f :: r) : ∀ d ∈ r, d.v ≠ f.v := by
  intro d hd e
  have hsep := h.sep
  rw [hfr] at hsep
  have := (List.pairwise_cons.1 hsep).1 d hd d.v (by simp [Fr.seg])
  rw [e] at this
  omega

/-- An edge back into the stack. -/
theorem inv_low {σ : St} (h : Inv n start to σ) {f : Fr} {r : List Fr} {m : Nat} (hfr : σ.fr = f :: r) (he : f.e < start (f.v + 1)) (hto : to f.e < n) (h0 : σ.idx (to f.e) ≠ 0) (hc : σ.comp (to f.e) < 0) (hm : m = min (σ.low f.v) (σ.idx (to f.e))) :
    Inv n start to ⟨σ.idx, upd σ.low f.v m, σ.comp, ⟨f.v, f.e + 1, f.rest⟩ :: r, σ.reached, σ.count⟩ := by
  refine inv_adv h hfr he hto h0 (by rw [upd_same]; omega) (fun d hd => upd_other _ _ _ (other_v h hfr d hd)) (Or.inr (by rw [upd_same]; omega)) ?_
  rw [upd_same]
  by_cases hl : σ.low f.v ≤ σ.idx (to f.e)
  · exact Or.inl (by omega)
  · exact Or.inr ⟨by omega, hc⟩

/-- An edge to a vertex whose component is closed. -/
theorem inv_skip {σ : St} (h : Inv n start to σ) {f : Fr} {r : List Fr} (hfr : σ.fr = f :: r) (he : f.e < start (f.v + 1)) (hto : to f.e < n) (h0 : σ.idx (to f.e) ≠ 0) (hc : ¬ σ.comp (to f.e) < 0) :
    Inv n start to ⟨σ.idx, σ.low, σ.comp, ⟨f.v, f.e + 1, f.rest⟩ :: r, σ.reached, σ.count⟩ :=
  inv_adv h hfr he hto h0 (Nat.le_refl _) (fun _ _ => rfl) (Or.inl (by omega)) (Or.inl rfl)

/-- With one frame alone the component is closed. -/
theorem low_alone {σ : St} (h : Inv n start to σ) {f : Fr} (hfr : σ.fr = [f]) : σ.low f.v = σ.idx f.v := by
  have hf : f ∈ σ.fr := by rw [hfr]; simp
  obtain ⟨x, q1, q2, q3, q4, q5⟩ := h.loww f hf
  obtain ⟨g, hg, hs⟩ := h.back x q1 q2 q3
  rw [hfr] at hg
  obtain rfl : g = f := by simpa using hg
  have := h.lowle g hf
  rcases List.mem_cons.1 hs with rfl | hs
  · omega
  · have := h.segs g hf x hs; omega

theorem meas_visit {σ : St} {f : Fr} {r : List Fr} {w : Nat} (hfr : σ.fr = f :: r) (he : f.e < start (f.v + 1)) (hw : w < n) (h0 : σ.idx w = 0) :
    meas start n (visit start w σ (⟨f.v, f.e + 1, f.rest⟩ :: r)) < meas start n σ := by
  have := wdeg_upd (start := start) (idx := σ.idx) (a := σ.reached + 1) (by omega) h0 hw
  simp only [meas, visit, hfr, fdeg, List.length_cons]
  omega
theorem meas_adv {σ : St} {f : Fr} {r : List Fr} {low' : Nat → Nat} (hfr : σ.fr = f :: r) (he : f.e < start (f.v + 1)) :
    meas start n ⟨σ.idx, low', σ.comp, ⟨f.v, f.e + 1, f.rest⟩ :: r, σ.reached, σ.count⟩ < meas start n σ := by
  simp only [meas, hfr, fdeg, List.length_cons]
  omega
theorem meas_merge {σ : St} {f p : Fr} {r : List Fr} {low' : Nat → Nat} {l : List Nat} (hfr : σ.fr = f :: p :: r) :
    meas start n ⟨σ.idx, low', σ.comp, ⟨p.v, p.e, l⟩ :: r, σ.reached, σ.count⟩ < meas start n σ := by
  simp only [meas, hfr, fdeg, List.length_cons]
  omega
theorem meas_close {σ : St} {f : Fr} {r : List Fr} {low' : Nat → Nat} {comp' : Nat → Int} {c : Nat} (hfr : σ.fr = f :: r) :
    meas start n ⟨σ.idx, low', comp', r, σ.reached, c⟩ < meas start n σ := by
  simp only [meas, hfr, fdeg, List.length_cons]
  omega

/-- WHAT THE ALGORITHM ANSWERS. -/
structure Res (n : Nat) (start to : Nat → Nat) (comp : Nat → Int) (count : Nat) : Prop where
  bd : ∀ u, u < n → 0 ≤ comp u ∧ comp u < count
  used : ∀ c, c < count → ∃ u, u < n ∧ comp u = (c : Int)
  succ : ∀ u w, u < n → Adj start to u w → comp w ≤ comp u
  same : ∀ u v, u < n → v < n → comp u = comp v → Reach (Adj start to) u v
  num : count ≤ n

theorem inv_res {σ : St} (h : Inv n start to σ) (hfr : σ.fr = []) (hall : ∀ v, v < n → σ.idx v ≠ 0) : Res n start to σ.comp σ.count := by
  have hc : ∀ u, u < n → 0 ≤ σ.comp u := by
    intro u hu
    rcases Int.lt_or_le (σ.comp u) 0 with hl | hl
    · obtain ⟨f, hf, _⟩ := h.back u hu (hall u hu) hl
      rw [hfr] at hf
      simp at hf
    · exact hl
  refine ⟨fun u hu => ⟨hc u hu, h.cl u hu (hall u hu) (hc u hu)⟩, fun c hcc => ?_, fun u w hu ha => ?_, fun u v hu hv he => h.csame u v hu hv (hall u hu) (hall v hv) (hc u hu) he, ?_⟩
  · obtain ⟨u, hu, _, e⟩ := h.used c hcc
    exact ⟨u, hu, e⟩
  · obtain ⟨j, h1, h2, rfl⟩ := ha
    exact (h.csucc u hu (hall u hu) (hc u hu) j h1 h2).2.2
  · have := h.num
    have := h.all
    omega

end
end Go.Proofs.Qxb6601391a.TJ
