import Derived.Test.Qxb6601391aNGClone
namespace Go.Proofs.Qxb6601391a.NG
open Go.RowKit
/-- The graph being built. -/
def gcells (x : Int) (n c sb tb : Nat) : Nat → Value
  | 0 => .int .i64 x
  | 1 => .slice (some ⟨sb, 0, none⟩) (n + 1) (n + 1)
  | _ => .slice (some ⟨tb, 0, none⟩) c c
structure GS (N : Nat) (x : Int) (n c gb sb tb : Nat) (f t : Nat → Int) (wr : World) : Prop where
  g : Row wr gb 3 (gcells x n c sb tb)
  s : Row wr sb (n + 1) (fun i => .int .i64 (f i))
  t : Row wr tb c (fun i => .int .i32 (t i))
  ng : N ≤ gb
  ns : N ≤ sb
  nt : N ≤ tb
  gs : gb ≠ sb
  gt : gb ≠ tb
  st : sb ≠ tb

theorem gs_start1 (x : Int) (n c : Nat) (w : World) : Below w.heap.size w (((w.alloc (.cells (madeCells #[.int .i64 0] (n + 1)) 3)).alloc (.cells (madeCells #[.int .i32 0] c) 21)).alloc
      (.cells #[.int .i64 x, .slice (some ⟨w.heap.size, 0, none⟩) (n + 1) (n + 1), .slice (some ⟨w.heap.size + 1, 0, none⟩) c c] 54)).drew ∧
    GS w.heap.size x n c (w.heap.size + 1 + 1) w.heap.size (w.heap.size + 1) (fun _ => 0) (fun _ => 0) (((w.alloc (.cells (madeCells #[.int .i64 0] (n + 1)) 3)).alloc (.cells (madeCells #[.int .i32 0] c) 21)).alloc
      (.cells #[.int .i64 x, .slice (some ⟨w.heap.size, 0, none⟩) (n + 1) (n + 1), .slice (some ⟨w.heap.size + 1, 0, none⟩) c c] 54)).drew := by
  refine ⟨((((Below.refl _ _).alloc (Nat.le_refl _) _).alloc (by simp) _).alloc (by simp; omega) _).drew, ?_⟩
  have h1 := Row.made w (.int .i64 0) (n + 1) 3
  have h2 := Row.made (w.alloc (.cells (madeCells #[.int .i64 0] (n + 1)) 3)) (.int .i32 0) c 21
  have h3 := Row.lits ((w.alloc (.cells (madeCells #[.int .i64 0] (n + 1)) 3)).alloc (.cells (madeCells #[.int .i32 0] c) 21)) #[.int .i64 x, .slice (some ⟨w.heap.size, 0, none⟩) (n + 1) (n + 1), .slice (some ⟨w.heap.size + 1, 0, none⟩) c c] 54 3
    (gcells x n c w.heap.size (w.heap.size + 1)) (by simp) (fun i hi => by
      match i, hi with
      | 0, _ => rfl
      | 1, _ => rfl
      | 2, _ => rfl)
  simp only [World.size_alloc] at h2 h3
  exact ⟨h3.drew, ((h1.alloc _).alloc _).drew, (h2.alloc _).drew, by omega, by omega, by omega, by omega, by omega, by omega⟩

theorem gs_start2 (x : Int) (n c : Nat) (w : World) : Below w.heap.size w (((w.alloc (.cells (madeCells #[.int .i32 0] c) 21)).alloc (.cells (madeCells #[.int .i64 0] (n + 1)) 3)).alloc
      (.cells #[.int .i64 x, .slice (some ⟨w.heap.size + 1, 0, none⟩) (n + 1) (n + 1), .slice (some ⟨w.heap.size, 0, none⟩) c c] 54)).drew ∧
    GS w.heap.size x n c (w.heap.size + 1 + 1) (w.heap.size + 1) w.heap.size (fun _ => 0) (fun _ => 0) (((w.alloc (.cells (madeCells #[.int .i32 0] c) 21)).alloc (.cells (madeCells #[.int .i64 0] (n + 1)) 3)).alloc
      (.cells #[.int .i64 x, .slice (some ⟨w.heap.size + 1, 0, none⟩) (n + 1) (n + 1), .slice (some ⟨w.heap.size, 0, none⟩) c c] 54)).drew := by
  refine ⟨((((Below.refl _ _).alloc (Nat.le_refl _) _).alloc (by simp) _).alloc (by simp; omega) _).drew, ?_⟩
  have h1 := Row.made w (.int .i32 0) c 21
  have h2 := Row.made (w.alloc (.cells (madeCells #[.int .i32 0] c) 21)) (.int .i64 0) (n + 1) 3
  have h3 := Row.lits ((w.alloc (.cells (madeCells #[.int .i32 0] c) 21)).alloc (.cells (madeCells #[.int .i64 0] (n + 1)) 3)) #[.int .i64 x, .slice (some ⟨w.heap.size + 1, 0, none⟩) (n + 1) (n + 1), .slice (some ⟨w.heap.size, 0, none⟩) c c] 54 3
    (gcells x n c (w.heap.size + 1) w.heap.size) (by simp) (fun i hi => by
      match i, hi with
      | 0, _ => rfl
      | 1, _ => rfl
      | 2, _ => rfl)
  simp only [World.size_alloc] at h2 h3
  exact ⟨h3.drew, (h2.alloc _).drew, ((h1.alloc _).alloc _).drew, by omega, by omega, by omega, by omega, by omega, by omega⟩

namespace GS
variable {N : Nat} {x : Int} {n c gb sb tb : Nat} {f t f' t' : Nat → Int} {wr : World}
theorem congr (h : GS N x n c gb sb tb f t wr) (hf : ∀ i, i < n + 1 → f i = f' i) : GS N x n c gb sb tb f' t wr :=
  ⟨h.g, h.s.congr (fun i hi => by rw [hf i hi]), h.t, h.ng, h.ns, h.nt, h.gs, h.gt, h.st⟩
theorem alloc (h : GS N x n c gb sb tb f t wr) (o : Obj) : GS N x n c gb sb tb f t (wr.alloc o) :=
  ⟨h.g.alloc _, h.s.alloc _, h.t.alloc _, h.ng, h.ns, h.nt, h.gs, h.gt, h.st⟩
theorem drew (h : GS N x n c gb sb tb f t wr) : GS N x n c gb sb tb f t wr.drew := ⟨h.g, h.s, h.t, h.ng, h.ns, h.nt, h.gs, h.gt, h.st⟩
theorem setS (h : GS N x n c gb sb tb f t wr) (i : Nat) (v : Int) : GS N x n c gb sb tb (fun j => if j = i then v else f j) t (wr.setCell ⟨sb, i, none⟩ (.int .i64 v)) :=
  ⟨h.g.setOther h.gs _, (h.s.set i (.int .i64 v)).congr (fun j _ => by split <;> rfl), h.t.setOther (Ne.symm h.st) _, h.ng, h.ns, h.nt, h.gs, h.gt, h.st⟩
theorem setT (h : GS N x n c gb sb tb f t wr) (i : Nat) (v : Int) : GS N x n c gb sb tb f (fun j => if j = i then v else t j) (wr.setCell ⟨tb, i, none⟩ (.int .i32 v)) :=
  ⟨h.g.setOther h.gt _, h.s.setOther h.st _, (h.t.set i (.int .i32 v)).congr (fun j _ => by split <;> rfl), h.ng, h.ns, h.nt, h.gs, h.gt, h.st⟩
theorem setFar (h : GS N x n c gb sb tb f t wr) {a : Addr} (h1 : gb ≠ a.block) (h2 : sb ≠ a.block) (h3 : tb ≠ a.block) (v : Value) : GS N x n c gb sb tb f t (wr.setCell a v) :=
  ⟨h.g.setOther h1 _, h.s.setOther h2 _, h.t.setOther h3 _, h.ng, h.ns, h.nt, h.gs, h.gt, h.st⟩
theorem later {w' : World} (h : GS N x n c gb sb tb f t wr) (hb : Below wr.heap.size wr w') : GS N x n c gb sb tb f t w' :=
  ⟨h.g.later hb, h.s.later hb, h.t.later hb, h.ng, h.ns, h.nt, h.gs, h.gt, h.st⟩
end GS

/-- The counts as the first pass leaves them: 'start[v + 1]' is how many edges leave v. -/
def hist (l : List (Int × Int)) : Nat → Int
  | 0 => 0
  | u + 1 => (cnt l (u : Int) : Nat)
theorem hist_nil (v : Nat) : hist [] v = 0 := by cases v <;> simp [hist, cnt_nil]
theorem hist_snoc (l : List (Int × Int)) (s : Nat) (y : Int) (v : Nat) : hist (l ++ [((s : Int), y)]) v = if v = s + 1 then hist l (s + 1) + 1 else hist l v := by
  cases v with
  | zero => rw [if_neg (by omega)]; rfl
  | succ u =>
    simp only [hist, cnt_snoc]
    by_cases e : u = s
    · subst e; simp
    · rw [if_neg (by omega), if_neg (by omega)]; simp
theorem hist_bd (l : List (Int × Int)) (v : Nat) : 0 ≤ hist l v ∧ hist l v ≤ l.length := by
  cases v with
  | zero => simp [hist]
  | succ u => simp only [hist, cnt]; exact ⟨by omega, by have := List.countP_le_length (p := fun e : Int × Int => e.1 == (u : Int)) (l := l); omega⟩

/-- The sums as the second pass leaves them. -/
def sums (es : List (Int × Int)) (v : Nat) (i : Nat) : Int := if i ≤ v then (lowc es (i : Int) : Nat) else hist es i
theorem sums_zero {es : List (Int × Int)} (h : ∀ e ∈ es, 0 ≤ e.1) (i : Nat) : sums es 0 i = hist es i := by
  unfold sums
  split
  · obtain rfl : i = 0 := by omega
    have := lowc_zero es h
    simp [hist, this]
  · rfl
theorem sums_step (es : List (Int × Int)) (v i : Nat) : sums es (v + 1) i = if i = v + 1 then sums es v (v + 1) + sums es v v else sums es v i := by
  unfold sums
  by_cases e : i = v + 1
  · subst e
    rw [if_pos (Nat.le_refl _), if_pos rfl, if_neg (by omega), if_pos (Nat.le_refl _)]
    have := lowc_succ es (v : Int)
    simp only [hist]
    push_cast
    rw [this]
    omega
  · rw [if_neg e]
    by_cases e2 : i ≤ v
    · rw [if_pos (by omega), if_pos e2]
    · rw [if_neg (by omega), if_neg e2]
theorem sums_bd (es : List (Int × Int)) (v i : Nat) : 0 ≤ sums es v i ∧ sums es v i ≤ es.length := by
  unfold sums
  split
  · have := lowc_le es (i : Int); omega
  · exact hist_bd es i

/-- The second pass over the edges: the edges l have been placed. -/
def PS (N : Nat) (x : Int) (n c gb sb tb : Nat) (nao : Option Addr) (es l : List (Int × Int)) (wr : World) : Prop :=
  ∃ t : Nat → Int, GS N x n c gb sb tb (fun v => ((lowc es (v : Int) : Nat) : Int)) t wr ∧ Filled es l t ∧
    (0 < n → ∃ nb, nao = some ⟨nb, 0, none⟩ ∧ N ≤ nb ∧ gb ≠ nb ∧ sb ≠ nb ∧ tb ≠ nb ∧ Row wr nb n (fun v => .int .i64 ((lowc es (v : Int) + cnt l (v : Int) : Nat) : Int)))

theorem ps_start {N : Nat} {x : Int} {n c gb sb tb : Nat} {nao : Option Addr} {es : List (Int × Int)} {wr w1 : World} (hN : N ≤ wr.heap.size) (h : GS N x n c gb sb tb (sums es n) (fun _ => 0) wr) (hb : Below wr.heap.size wr w1)
    (hx : 0 < n → ∃ g, nao = some ⟨g, 0, none⟩ ∧ wr.heap.size ≤ g ∧ Row w1 g n (fun i => .int .i64 (sums es n i))) : PS N x n c gb sb tb nao es [] w1 := by
  have hF : ∀ i, i < n + 1 → sums es n i = ((lowc es (i : Int) : Nat) : Int) := fun i hi => by unfold sums; rw [if_pos (by omega)]
  refine ⟨_, (h.congr hF).later hb, filled_nil _ _, fun h0 => ?_⟩
  obtain ⟨g, e1, e2, e3⟩ := hx h0
  have l1 := h.g.lt
  have l2 := h.s.lt
  have l3 := h.t.lt
  exact ⟨g, e1, by omega, by omega, by omega, by omega, e3.congr (fun i hi => by rw [hF i (by omega), cnt_nil]; rfl)⟩

theorem PS.alloc {N : Nat} {x : Int} {n c gb sb tb : Nat} {nao : Option Addr} {es l : List (Int × Int)} {wr : World} (h : PS N x n c gb sb tb nao es l wr) (o : Obj) : PS N x n c gb sb tb nao es l (wr.alloc o) := by
  obtain ⟨t, hg, hf, hx⟩ := h
  refine ⟨t, hg.alloc o, hf, fun hn => ?_⟩
  obtain ⟨nb, e0, h1, h2, h3, h4, hrow⟩ := hx hn
  exact ⟨nb, e0, h1, h2, h3, h4, hrow.alloc o⟩
theorem PS.drew {N : Nat} {x : Int} {n c gb sb tb : Nat} {nao : Option Addr} {es l : List (Int × Int)} {wr : World} (h : PS N x n c gb sb tb nao es l wr) : PS N x n c gb sb tb nao es l wr.drew := by
  obtain ⟨t, hg, hf, hx⟩ := h
  exact ⟨t, hg.drew, hf, hx⟩

theorem ps_step {N : Nat} {x : Int} {n c gb sb tb nb : Nat} {es l r : List (Int × Int)} {wr : World} {s : Nat} {y : Int} {p : Nat} (h : PS N x n c gb sb tb (some ⟨nb, 0, none⟩) es l wr) (hn : 0 < n)
    (hes : es = l ++ ((s : Int), y) :: r) (hp : p = lowc es (s : Int) + cnt l (s : Int)) :
    PS N x n c gb sb tb (some ⟨nb, 0, none⟩) es (l ++ [((s : Int), y)]) ((wr.setCell ⟨tb, p, none⟩ (.int .i32 y)).setCell ⟨nb, s, none⟩ (.int .i64 ((p : Int) + 1))) := by
  obtain ⟨t, hg, hf, hx⟩ := h
  obtain ⟨nb', e0, h1, h2, h3, h4, hrow⟩ := hx hn
  simp only [Option.some.injEq, Addr.mk.injEq, and_true] at e0
  subst e0
  have hst := filled_step hf hes
  refine ⟨_, (hg.setT p y).setFar h2 h3 h4 _, ?_, fun _ => ⟨nb, rfl, h1, h2, h3, h4, ?_⟩⟩
  · have : pos es l ((s : Int), y) = p := by unfold pos; exact hp.symm
    rw [this] at hst
    exact hst
  · refine ((hrow.setOther (Ne.symm h4) _).set s _).congr (fun v hv => ?_)
    rw [cnt_snoc]
    by_cases e : v = s
    · subst e
      rw [if_pos rfl, if_pos rfl, hp]
      push_cast
      congr 1
    · rw [if_neg e, if_neg (by show ¬ ((s : Int) = (v : Int)); omega)]
      rfl

end Go.Proofs.Qxb6601391a.NG
