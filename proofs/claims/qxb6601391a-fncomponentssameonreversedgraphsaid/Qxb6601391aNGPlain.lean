/-
  The plain mathematics of 'newGraph': edges grouped by their source (a counting sort). No Go in sight.
-/
namespace Go.Proofs.Qxb6601391a.NG

/-- How many of the edges leave v. -/
def cnt (l : List (Int × Int)) (v : Int) : Nat := l.countP (fun e => e.1 == v)
/-- How many of the edges leave a vertex below v. -/
def lowc (l : List (Int × Int)) (v : Int) : Nat := l.countP (fun e => decide (e.1 < v))

theorem cnt_nil (v : Int) : cnt [] v = 0 := rfl
theorem lowc_nil (v : Int) : lowc [] v = 0 := rfl
theorem cnt_append (a b : List (Int × Int)) (v : Int) : cnt (a ++ b) v = cnt a v + cnt b v := by simp [cnt, List.countP_append]
theorem lowc_append (a b : List (Int × Int)) (v : Int) : lowc (a ++ b) v = lowc a v + lowc b v := by simp [lowc, List.countP_append]
theorem cnt_cons (e : Int × Int) (b : List (Int × Int)) (v : Int) : cnt (e :: b) v = cnt b v + if e.1 = v then 1 else 0 := by
  simp [cnt, List.countP_cons]
theorem lowc_cons (e : Int × Int) (b : List (Int × Int)) (v : Int) : lowc (e :: b) v = lowc b v + if e.1 < v then 1 else 0 := by
  simp [lowc, List.countP_cons]
theorem cnt_snoc (l : List (Int × Int)) (e : Int × Int) (v : Int) : cnt (l ++ [e]) v = cnt l v + if e.1 = v then 1 else 0 := by
  rw [cnt_append, cnt_cons, cnt_nil]; omega

theorem lowc_succ (l : List (Int × Int)) (v : Int) : lowc l (v + 1) = lowc l v + cnt l v := by
  induction l with
  | nil => rfl
  | cons e l ih =>
    rw [lowc_cons, lowc_cons, cnt_cons, ih]
    by_cases h1 : e.1 < v
    · rw [if_pos (by omega), if_pos h1, if_neg (by omega)]; omega
    · by_cases h2 : e.1 = v
      · rw [if_pos (by omega), if_neg h1, if_pos h2]; omega
      · rw [if_neg (by omega), if_neg h1, if_neg h2]; omega

theorem lowc_zero (l : List (Int × Int)) (h : ∀ e ∈ l, 0 ≤ e.1) : lowc l 0 = 0 := by
  induction l with
  | nil => rfl
  | cons e l ih =>
    have h1 := h e (by simp)
    rw [lowc_cons, ih (fun x hx => h x (by simp [hx])), if_neg (by omega)]

theorem lowc_top (l : List (Int × Int)) (n : Int) (h : ∀ e ∈ l, e.1 < n) : lowc l n = l.length := by
  induction l with
  | nil => rfl
  | cons e l ih =>
    have h1 := h e (by simp)
    rw [lowc_cons, ih (fun x hx => h x (by simp [hx])), if_pos h1, List.length_cons]

theorem lowc_le (l : List (Int × Int)) (v : Int) : lowc l v ≤ l.length := by
  induction l with
  | nil => simp [lowc_nil]
  | cons e l ih => rw [lowc_cons, List.length_cons]; split <;> omega

theorem lowc_mono (l : List (Int × Int)) {v w : Int} (h : v ≤ w) : lowc l v ≤ lowc l w := by
  induction l with
  | nil => simp [lowc_nil]
  | cons e l ih =>
    rw [lowc_cons, lowc_cons]
    by_cases h1 : e.1 < v
    · rw [if_pos h1, if_pos (by omega)]; omega
    · rw [if_neg h1]; split <;> omega

/-- Where the edge e lies, which stands behind the edges l. -/
def pos (es l : List (Int × Int)) (e : Int × Int) : Nat := lowc es e.1 + cnt l e.1

theorem pos_lt {es l r : List (Int × Int)} {e : Int × Int} (h : es = l ++ e :: r) : pos es l e < lowc es (e.1 + 1) := by
  rw [lowc_succ]
  unfold pos
  have : cnt es e.1 = cnt l e.1 + (cnt r e.1 + 1) := by rw [h, cnt_append, cnt_cons, if_pos rfl]
  omega

theorem pos_lt_length {es l r : List (Int × Int)} {e : Int × Int} (h : es = l ++ e :: r) : pos es l e < es.length :=
  Nat.lt_of_lt_of_le (pos_lt h) (lowc_le _ _)

theorem pos_ne {es l l1 l2 r : List (Int × Int)} {e e' : Int × Int} (hl : l = l1 ++ e' :: l2) (h : es = l ++ e :: r) : pos es l1 e' ≠ pos es l e := by
  intro he
  have h' : es = l1 ++ e' :: (l2 ++ e :: r) := by rw [h, hl]; simp
  have p1 := pos_lt h'
  have p2 := pos_lt h
  by_cases e1 : e'.1 < e.1
  · have := lowc_mono es (show e'.1 + 1 ≤ e.1 by omega)
    have : lowc es e.1 ≤ pos es l e := by unfold pos; omega
    omega
  · by_cases e2 : e.1 < e'.1
    · have := lowc_mono es (show e.1 + 1 ≤ e'.1 by omega)
      have : lowc es e'.1 ≤ pos es l1 e' := by unfold pos; omega
      omega
    · have e3 : e'.1 = e.1 := by omega
      unfold pos at he
      rw [e3, hl, cnt_append, cnt_cons, if_pos e3] at he
      omega

/-- 'to' holds the target of each of the edges l at its place. -/
def Filled (es l : List (Int × Int)) (to : Nat → Int) : Prop := ∀ l1 e l2, l = l1 ++ e :: l2 → to (pos es l1 e) = e.2

theorem filled_nil (es : List (Int × Int)) (to : Nat → Int) : Filled es [] to := by
  intro l1 e l2 h
  simp at h

theorem filled_step {es l r : List (Int × Int)} {e : Int × Int} {to : Nat → Int} (hf : Filled es l to) (h : es = l ++ e :: r) :
    Filled es (l ++ [e]) (fun i => if i = pos es l e then e.2 else to i) := by
  intro l1 e' l2 hl
  rcases List.eq_nil_or_concat l2 with rfl | ⟨l3, x, rfl⟩
  · have := List.append_inj' hl rfl
    obtain ⟨rfl, h2⟩ := this
    simp at h2
    subst h2
    simp
  · have hl' : l ++ [e] = (l1 ++ e' :: l3) ++ [x] := by rw [hl]; simp
    have := List.append_inj' hl' rfl
    obtain ⟨h1, h2⟩ := this
    simp only []
    rw [if_neg (pos_ne h1 h)]
    exact hf l1 e' l3 h1

/-- The first j edges of a block. -/
def row (S T : Nat → Int) : Nat → List (Int × Int)
  | 0 => []
  | j + 1 => row S T j ++ [(S j, T j)]
/-- The edges of the first i blocks. -/
def rows (L : Nat → Nat) (S T : Nat → Nat → Int) : Nat → List (Int × Int)
  | 0 => []
  | i + 1 => rows L S T i ++ row (S i) (T i) (L i)
/-- The edges of the first i blocks and the first j of the next. -/
def pre (L : Nat → Nat) (S T : Nat → Nat → Int) (i j : Nat) : List (Int × Int) := rows L S T i ++ row (S i) (T i) j
/-- How many edges the first i blocks hold. -/
def tot (L : Nat → Nat) : Nat → Nat
  | 0 => 0
  | i + 1 => tot L i + L i

theorem length_row (S T : Nat → Int) (j : Nat) : (row S T j).length = j := by
  induction j with
  | zero => rfl
  | succ j ih => simp [row, ih]
theorem length_rows (L : Nat → Nat) (S T : Nat → Nat → Int) (i : Nat) : (rows L S T i).length = tot L i := by
  induction i with
  | zero => rfl
  | succ i ih => simp [rows, tot, ih, length_row]
theorem length_pre (L : Nat → Nat) (S T : Nat → Nat → Int) (i j : Nat) : (pre L S T i j).length = tot L i + j := by simp [pre, length_rows, length_row]
theorem pre_zero (L : Nat → Nat) (S T : Nat → Nat → Int) (i : Nat) : pre L S T i 0 = rows L S T i := by simp [pre, row]
theorem pre_succ (L : Nat → Nat) (S T : Nat → Nat → Int) (i j : Nat) : pre L S T i (j + 1) = pre L S T i j ++ [(S i j, T i j)] := by simp [pre, row]
theorem pre_full (L : Nat → Nat) (S T : Nat → Nat → Int) (i : Nat) : pre L S T i (L i) = rows L S T (i + 1) := by simp [pre, rows]

theorem row_head (S T : Nat → Int) {j k : Nat} (h : j ≤ k) : ∃ r, row S T k = row S T j ++ r := by
  induction k with
  | zero => exact ⟨[], by obtain rfl : j = 0 := by omega
                          simp⟩
  | succ k ih =>
    by_cases e : j = k + 1
    · exact ⟨[], by rw [e]; simp⟩
    · obtain ⟨r, hr⟩ := ih (by omega)
      exact ⟨r ++ [(S k, T k)], by rw [row, hr]; simp⟩
theorem rows_head (L : Nat → Nat) (S T : Nat → Nat → Int) {i k : Nat} (h : i ≤ k) : ∃ r, rows L S T k = rows L S T i ++ r := by
  induction k with
  | zero => exact ⟨[], by obtain rfl : i = 0 := by omega
                          simp⟩
  | succ k ih =>
    by_cases e : i = k + 1
    · exact ⟨[], by rw [e]; simp⟩
    · obtain ⟨r, hr⟩ := ih (by omega)
      exact ⟨r ++ row (S k) (T k) (L k), by rw [rows, hr]; simp⟩

/-- The edge (i, j) stands behind the edges before it. -/
theorem split_at (L : Nat → Nat) (S T : Nat → Nat → Int) {n i j : Nat} (hi : i < n) (hj : j < L i) : ∃ r, rows L S T n = pre L S T i j ++ (S i j, T i j) :: r := by
  obtain ⟨r1, h1⟩ := rows_head L S T (show i + 1 ≤ n by omega)
  obtain ⟨r2, h2⟩ := row_head (S i) (T i) (show j + 1 ≤ L i by omega)
  refine ⟨r2 ++ r1, ?_⟩
  rw [h1, rows, h2]
  simp [pre, row]

theorem mem_row {S T : Nat → Int} {j : Nat} {e : Int × Int} (h : e ∈ row S T j) : ∃ k, k < j ∧ e = (S k, T k) := by
  induction j with
  | zero => simp [row] at h
  | succ j ih =>
    rw [row, List.mem_append] at h
    rcases h with h | h
    · obtain ⟨k, hk, he⟩ := ih h
      exact ⟨k, by omega, he⟩
    · exact ⟨j, by omega, by simpa using h⟩
theorem mem_rows {L : Nat → Nat} {S T : Nat → Nat → Int} {n : Nat} {e : Int × Int} (h : e ∈ rows L S T n) : ∃ i j, i < n ∧ j < L i ∧ e = (S i j, T i j) := by
  induction n with
  | zero => simp [rows] at h
  | succ n ih =>
    rw [rows, List.mem_append] at h
    rcases h with h | h
    · obtain ⟨i, j, hi, hj, he⟩ := ih h
      exact ⟨i, j, by omega, hj, he⟩
    · obtain ⟨k, hk, he⟩ := mem_row h
      exact ⟨n, k, by omega, hk, he⟩

theorem tot_mono (L : Nat → Nat) {i k : Nat} (h : i ≤ k) : tot L i ≤ tot L k := by
  induction k with
  | zero => obtain rfl : i = 0 := by omega
            exact Nat.le_refl _
  | succ k ih =>
    by_cases e : i = k + 1
    · rw [e]; exact Nat.le_refl _
    · have := ih (by omega); rw [tot]; omega

theorem tot_lt (L : Nat → Nat) {i k : Nat} (h : i < k) : tot L i + L i ≤ tot L k := by
  have := tot_mono L (show i + 1 ≤ k by omega)
  rwa [tot] at this

end Go.Proofs.Qxb6601391a.NG
