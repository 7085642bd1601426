/-
  The plain mathematics of a graph turned round: its edges grouped by their targets (a counting sort); what it leads to; two numberings of one partition.
-/
import Derived.Test.Qxb6601391aNGPlain
import Derived.Test.Qxb6601391aTJPlain
namespace Go.Proofs.Qxb6601391a.TJ
open Go.Proofs.Qxb6601391a.NG

/-- The vertex that the edge j leaves. -/
def src (start : Nat → Nat) (j : Nat) : Nat → Nat
  | 0 => 0
  | k + 1 => if start k ≤ j then k else src start j k
theorem src_eq {start : Nat → Nat} {n : Nat} (hm : ∀ v, v < n → start v ≤ start (v + 1)) {v j : Nat} (hv : v < n) (h1 : start v ≤ j) (h2 : j < start (v + 1)) : src start j n = v := by
  have mono : ∀ a b, a ≤ b → b ≤ n → start a ≤ start b := by
    intro a b hab hb
    induction b with
    | zero => obtain rfl : a = 0 := by omega
              exact Nat.le_refl _
    | succ b ih =>
      by_cases e : a = b + 1
      · rw [e]; exact Nat.le_refl _
      · exact Nat.le_trans (ih (by omega) (by omega)) (hm b (by omega))
  have key : ∀ k, v < k → k ≤ n → src start j k = v := by
    intro k hk hkn
    induction k with
    | zero => omega
    | succ k ih =>
      rw [src]
      by_cases e : v = k
      · rw [if_pos (by rw [← e]; exact h1), e]
      · have := mono (v + 1) k (by omega) (by omega)
        rw [if_neg (by omega)]
        exact ih (by omega) (by omega)
  exact key n hv (Nat.le_refl _)
theorem src_ex {start : Nat → Nat} {n j : Nat} (h0 : start 0 ≤ j) (hn : j < start n) : ∃ v, v < n ∧ start v ≤ j ∧ j < start (v + 1) := by
  induction n with
  | zero => omega
  | succ n ih =>
    by_cases e : j < start n
    · obtain ⟨v, h1, h2, h3⟩ := ih e
      exact ⟨v, by omega, h2, h3⟩
    · exact ⟨n, by omega, by omega, hn⟩

section
variable (start tg : Nat → Nat) (n : Nat)
/-- The first k edges, turned round. -/
def redges (k : Nat) : List (Int × Int) := row (fun i => (tg (start 0 + i) : Int)) (fun i => (src start (start 0 + i) n : Int)) k
end

section
variable {start tg : Nat → Nat} {n : Nat}

theorem redges_succ (k : Nat) : redges start tg n (k + 1) = redges start tg n k ++ [((tg (start 0 + k) : Int), (src start (start 0 + k) n : Int))] := rfl
theorem redges_len (k : Nat) : (redges start tg n k).length = k := length_row _ _ _
theorem redges_split {k m : Nat} (h : k < m) : ∃ r, redges start tg n m = redges start tg n k ++ ((tg (start 0 + k) : Int), (src start (start 0 + k) n : Int)) :: r := by
  obtain ⟨r, hr⟩ := row_head (fun i => (tg (start 0 + i) : Int)) (fun i => (src start (start 0 + i) n : Int)) (show k + 1 ≤ m by omega)
  exact ⟨r, by unfold redges; rw [hr]; simp [row]⟩
theorem redges_mem {m : Nat} {e : Int × Int} (h : e ∈ redges start tg n m) : ∃ k, k < m ∧ e = ((tg (start 0 + k) : Int), (src start (start 0 + k) n : Int)) := mem_row h

/-- The counts of the first pass. -/
def rhist (l : List (Int × Int)) : Nat → Nat
  | 0 => 0
  | u + 1 => cnt l (u : Int)
theorem rhist_nil (v : Nat) : rhist [] v = 0 := by cases v <;> simp [rhist, cnt_nil]
theorem rhist_snoc (l : List (Int × Int)) (s : Nat) (y : Int) (v : Nat) : rhist (l ++ [((s : Int), y)]) v = if v = s + 1 then rhist l (s + 1) + 1 else rhist l v := by
  cases v with
  | zero => rw [if_neg (by omega)]; rfl
  | succ u =>
    simp only [rhist, cnt_snoc]
    by_cases e : u = s
    · subst e; simp
    · rw [if_neg (by omega), if_neg (by omega)]; simp
theorem cnt_le_len (l : List (Int × Int)) (v : Int) : cnt l v ≤ l.length := List.countP_le_length
theorem rhist_bd (l : List (Int × Int)) (v : Nat) : rhist l v ≤ l.length := by
  cases v with
  | zero => simp [rhist]
  | succ u => exact cnt_le_len l u
/-- The sums of the second pass. -/
def rsums (es : List (Int × Int)) (v : Nat) (i : Nat) : Nat := if i ≤ v then lowc es (i : Int) else rhist es i
theorem rsums_zero {es : List (Int × Int)} (h : ∀ e ∈ es, 0 ≤ e.1) (i : Nat) : rsums es 0 i = rhist es i := by
  unfold rsums
  split
  · obtain rfl : i = 0 := by omega
    have := lowc_zero es h
    simp [rhist, this]
  · rfl
theorem rsums_step (es : List (Int × Int)) (v i : Nat) : rsums es (v + 1) i = if i = v + 1 then rsums es v (v + 1) + rsums es v v else rsums es v i := by
  unfold rsums
  by_cases e : i = v + 1
  · subst e
    rw [if_pos (Nat.le_refl _), if_pos rfl, if_neg (by omega), if_pos (Nat.le_refl _)]
    have := lowc_succ es (v : Int)
    simp only [rhist]
    push_cast
    rw [this]
    omega
  · rw [if_neg e]
    by_cases e2 : i ≤ v
    · rw [if_pos (by omega), if_pos e2]
    · rw [if_neg (by omega), if_neg e2]
theorem rsums_bd (es : List (Int × Int)) (v i : Nat) : rsums es v i ≤ es.length := by
  unfold rsums
  split
  · exact lowc_le es (i : Int)
  · exact rhist_bd es i
theorem rsums_top (es : List (Int × Int)) {n i : Nat} (h : i ≤ n) : rsums es n i = lowc es (i : Int) := by unfold rsums; rw [if_pos h]

/-- Every place below a vertex's end is the place of one of its edges. -/
theorem pos_onto {es : List (Int × Int)} {w : Int} {k : Nat} (h1 : lowc es w ≤ k) (h2 : k < lowc es (w + 1)) : ∃ l e r, es = l ++ e :: r ∧ e.1 = w ∧ pos es l e = k := by
  rw [lowc_succ] at h2
  obtain ⟨i, hi⟩ : ∃ i, k = lowc es w + i := ⟨k - lowc es w, by omega⟩
  have hic : i < cnt es w := by omega
  have key : ∀ (es : List (Int × Int)) (i : Nat), i < cnt es w → ∃ l e r, es = l ++ e :: r ∧ e.1 = w ∧ cnt l w = i := by
    intro es
    induction es with
    | nil => intro i hi; simp [cnt_nil] at hi
    | cons e es ih =>
      intro i hi
      rw [cnt_cons] at hi
      by_cases he : e.1 = w
      · rw [if_pos he] at hi
        cases i with
        | zero => exact ⟨[], e, es, rfl, he, cnt_nil w⟩
        | succ i =>
          obtain ⟨l, e', r, e1, e2, e3⟩ := ih i (by omega)
          exact ⟨e :: l, e', r, by rw [e1]; rfl, e2, by rw [cnt_cons, if_pos he, e3]⟩
      · rw [if_neg he] at hi
        obtain ⟨l, e', r, e1, e2, e3⟩ := ih i (by omega)
        exact ⟨e :: l, e', r, by rw [e1]; rfl, e2, by rw [cnt_cons, if_neg he, e3]; rfl⟩
  obtain ⟨l, e, r, e1, e2, e3⟩ := key es i hic
  exact ⟨l, e, r, e1, e2, by unfold pos; rw [e2, e3, hi]⟩

/-- The graph turned round. -/
structure Turned (start tg : Nat → Nat) (n : Nat) (rs rt : Nat → Nat) : Prop where
  s0 : rs 0 = 0
  sn : rs n = start n - start 0
  mono : ∀ v, v < n → rs v ≤ rs (v + 1)
  edge : ∀ u, u < n → ∀ j, rs u ≤ j → j < rs (u + 1) → rt j < n
  turn : ∀ u v, u < n → v < n → (Adj rs rt u v ↔ Adj start tg v u)

theorem turned {rt : Nat → Int} (hm : ∀ v, v < n → start v ≤ start (v + 1)) (h0 : start 0 ≤ start n) (hedge : ∀ u, u < n → ∀ j, start u ≤ j → j < start (u + 1) → tg j < n)
    (hf : Filled (redges start tg n (start n - start 0)) (redges start tg n (start n - start 0)) rt) :
    Turned start tg n (fun v => lowc (redges start tg n (start n - start 0)) (v : Int)) (fun j => (rt j).toNat) ∧ ∀ j, j < start n - start 0 → ∃ v : Nat, v < n ∧ rt j = (v : Int) := by
  have hin : ∀ k, k < start n - start 0 → tg (start 0 + k) < n ∧ src start (start 0 + k) n < n ∧ start (src start (start 0 + k) n) ≤ start 0 + k ∧ start 0 + k < start (src start (start 0 + k) n + 1) := by
    intro k hk
    obtain ⟨v, h1, h2, h3⟩ := src_ex (start := start) (n := n) (j := start 0 + k) (by omega) (by omega)
    rw [src_eq hm h1 h2 h3]
    exact ⟨hedge v h1 _ h2 h3, h1, h2, h3⟩
  generalize hes : redges start tg n (start n - start 0) = es at *
  have hlo : ∀ e ∈ es, 0 ≤ e.1 := by
    intro e he
    rw [← hes] at he
    obtain ⟨k, hk, rfl⟩ := redges_mem he
    exact Int.natCast_nonneg _
  have hhi : ∀ e ∈ es, e.1 < (n : Int) := by
    intro e he
    rw [← hes] at he
    obtain ⟨k, hk, rfl⟩ := redges_mem he
    have := (hin k hk).1
    show ((tg (start 0 + k) : Nat) : Int) < n
    omega
  have hlen : es.length = start n - start 0 := by rw [← hes, redges_len]
  -- what stands at a place
  have hat : ∀ (u k : Nat), lowc es (u : Int) ≤ k → k < lowc es ((u + 1 : Nat) : Int) → ∃ i, i < start n - start 0 ∧ tg (start 0 + i) = u ∧ rt k = (src start (start 0 + i) n : Int) := by
    intro u k h1 h2
    obtain ⟨l, e, r, e1, e2, e3⟩ := pos_onto (es := es) (w := (u : Int)) h1 h2
    have hmem : e ∈ es := by rw [e1]; simp
    have hval := hf l e r e1
    rw [e3] at hval
    rw [← hes] at hmem
    obtain ⟨i, hi, rfl⟩ := redges_mem hmem
    refine ⟨i, hi, ?_, hval⟩
    have : ((tg (start 0 + i) : Nat) : Int) = (u : Int) := e2
    omega
  refine ⟨⟨lowc_zero es hlo, ?_, fun v _ => lowc_mono es (by omega), ?_, ?_⟩, ?_⟩
  · show lowc es (n : Int) = _
    rw [lowc_top es n hhi, hlen]
  · intro u hu k h1 h2
    obtain ⟨i, hi, _, e2⟩ := hat u k h1 h2
    show (rt k).toNat < n
    rw [e2]
    have := (hin i hi).2.1
    simpa using this
  · intro u v hu hv
    constructor
    · rintro ⟨k, h1, h2, h3⟩
      obtain ⟨i, hi, e1, e2⟩ := hat u k h1 h2
      have h4 : src start (start 0 + i) n = v := by
        have h3' : (rt k).toNat = v := h3
        rw [e2] at h3'
        simpa using h3'
      obtain ⟨_, _, q3, q4⟩ := hin i hi
      rw [h4] at q3 q4
      exact ⟨start 0 + i, q3, q4, e1⟩
    · rintro ⟨j, h1, h2, h3⟩
      have hj0 : start 0 ≤ j := by
        have : ∀ a, a ≤ v → start 0 ≤ start a := by
          intro a
          induction a with
          | zero => intro _; exact Nat.le_refl _
          | succ a ih => intro ha; exact Nat.le_trans (ih (by omega)) (hm a (by omega))
        have := this v (Nat.le_refl _)
        omega
      have hjn : j < start n := by
        have : ∀ d, v + 1 + d ≤ n → start (v + 1) ≤ start (v + 1 + d) := by
          intro d
          induction d with
          | zero => intro _; exact Nat.le_refl _
          | succ d ih => intro hd; exact Nat.le_trans (ih (by omega)) (hm (v + 1 + d) (by omega))
        have := this (n - (v + 1)) (by omega)
        rw [show v + 1 + (n - (v + 1)) = n by omega] at this
        omega
      obtain ⟨r, hr⟩ := redges_split (start := start) (tg := tg) (n := n) (k := j - start 0) (m := start n - start 0) (by omega)
      rw [hes, show start 0 + (j - start 0) = j by omega, src_eq hm hv h1 h2, h3] at hr
      have hpos := pos_lt hr
      have hval := hf _ _ _ hr
      refine ⟨pos es (redges start tg n (j - start 0)) ((u : Int), (v : Int)), ?_, ?_, ?_⟩
      · show lowc es (u : Int) ≤ _
        unfold pos
        exact Nat.le_add_right _ _
      · show _ < lowc es ((u + 1 : Nat) : Int)
        push_cast
        exact hpos
      · show (rt _).toNat = v
        rw [hval]
        simp
  · intro j hj
    obtain ⟨u, h1, h2, h3⟩ := src_ex (start := fun v => lowc es (v : Int)) (n := n) (j := j) (by show lowc es ((0 : Nat) : Int) ≤ j; rw [show ((0 : Nat) : Int) = 0 from rfl, lowc_zero es hlo]; omega) (by show j < lowc es (n : Int); rw [lowc_top es n hhi, hlen]; exact hj)
    obtain ⟨i, hi, _, e2⟩ := hat u j h2 h3
    exact ⟨src start (start 0 + i) n, (hin i hi).2.1, e2⟩

/-- What leads back leads forth in the graph turned round. -/
theorem reach_turn {A B : Nat → Nat → Prop} {n : Nat} (hA : ∀ u v, u < n → A u v → v < n) (hB : ∀ u v, u < n → v < n → A u v → B v u) {u v : Nat} (hu : u < n) (h : Reach A u v) : Reach B v u := by
  have : v < n ∧ Reach B v u := h.carry (fun x => x < n ∧ Reach B x u) ⟨hu, Reach.refl u⟩ (fun x y hx ha => by
    have hy := hA x y hx.1 ha
    exact ⟨hy, (Reach.one (hB x y hx.1 hy ha)).trans hx.2⟩)
  exact this.2

/-- As many as can be told apart, no more. -/
theorem inj_le {a b : Nat} (f : Nat → Nat) (hf : ∀ i, i < a → f i < b) (hinj : ∀ i j, i < a → j < a → f i = f j → i = j) : a ≤ b := by
  induction b generalizing a f with
  | zero =>
    rcases Nat.eq_zero_or_pos a with h | h
    · omega
    · have := hf 0 h; omega
  | succ b ih =>
    rcases Nat.eq_zero_or_pos a with h | h
    · omega
    · obtain ⟨c, rfl⟩ : ∃ c, a = c + 1 := ⟨a - 1, by omega⟩
      have hc := hf c (by omega)
      -- swap the value of c with b
      have := ih (a := c) (fun i => if f i = b then f c else f i) (fun i hi => by
        show (if f i = b then f c else f i) < b
        by_cases e : f i = b
        · rw [if_pos e]
          have hne : f c ≠ b := fun e2 => by
            have := hinj i c (by omega) (by omega) (e.trans e2.symm)
            omega
          omega
        · rw [if_neg e]
          have := hf i (by omega)
          omega) (fun i j hi hj hij => by
        have hij' : (if f i = b then f c else f i) = (if f j = b then f c else f j) := hij
        by_cases e : f i = b
        · rw [if_pos e] at hij'
          by_cases e2 : f j = b
          · exact hinj i j (by omega) (by omega) (e.trans e2.symm)
          · rw [if_neg e2] at hij'
            have := hinj c j (by omega) (by omega) hij'
            omega
        · rw [if_neg e] at hij'
          by_cases e2 : f j = b
          · rw [if_pos e2] at hij'
            have := hinj i c (by omega) (by omega) hij'
            omega
          · rw [if_neg e2] at hij'
            exact hinj i j (by omega) (by omega) hij')
      omega

/-- One partition, two numberings: one count. -/
theorem count_le {n : Nat} {c1 c2 : Nat} {f g : Nat → Int} (hf : ∀ c, c < c1 → ∃ u, u < n ∧ f u = (c : Int)) (hg : ∀ u, u < n → 0 ≤ g u ∧ g u < c2) (h : ∀ u v, u < n → v < n → g u = g v → f u = f v) : c1 ≤ c2 := by
  have hex : ∀ c, ∃ u, c < c1 → u < n ∧ f u = (c : Int) := by
    intro c
    by_cases hc : c < c1
    · obtain ⟨u, hu⟩ := hf c hc
      exact ⟨u, fun _ => hu⟩
    · exact ⟨0, fun h => absurd h hc⟩
  refine inj_le (fun c => (g (Classical.choose (hex c))).toNat) (fun c hc => ?_) (fun c d hc hd e => ?_)
  · have h1 := (Classical.choose_spec (hex c) hc).1
    have := hg _ h1
    show (g (Classical.choose (hex c))).toNat < c2
    omega
  · have h1 := Classical.choose_spec (hex c) hc
    have h2 := Classical.choose_spec (hex d) hd
    have h3 := hg _ h1.1
    have h4 := hg _ h2.1
    have e' : (g (Classical.choose (hex c))).toNat = (g (Classical.choose (hex d))).toNat := e
    have := h _ _ h1.1 h2.1 (by omega)
    rw [h1.2, h2.2] at this
    omega

end
end Go.Proofs.Qxb6601391a.TJ
