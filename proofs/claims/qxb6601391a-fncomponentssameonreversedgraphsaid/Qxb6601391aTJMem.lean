/-
  The memory of 'components'.
-/
import Derived.Test.Qxb6601391aTJPlain
import Derived.Test.Qxb6601391aNGMem
import Derived.Deep.AppendLies
namespace Go.Proofs.Qxb6601391a.TJ
open Go.RowKit Go.Proofs.Qxb6601391a.NG

theorem Row.grown {w w1 : World} {b n : Nat} {f : Nat → Value} {row : Option Nat} (h : Row w b n f) (hg : w.grownBy w1 row) (hne : some b ≠ row) : Row w1 b n f := h.of_block (hg.block b h.lt hne)

/-- The first of what is owned is owned. -/
theorem owns_cut {w : World} {base : Nat} {e : TypeId} {size g cap n m : Nat} {xs ys : List Value} (hx : xs.length = n * size)
    (h : w.ownsRow base e size (.slice (some ⟨g, 0, none⟩) (n + m) cap) (n + m) (xs ++ ys)) : w.ownsRow base e size (.slice (some ⟨g, 0, none⟩) n cap) n xs := by
  obtain ⟨_, h2⟩ := h
  rcases h2 with ⟨h0, _⟩ | ⟨g', cap', cur, hv, hg, hh, hn, hcap, hsz, htake⟩
  · cases h0
  · cases hv
    refine ⟨hx, .inr ⟨g, cap, cur, rfl, hg, hh, by omega, hcap, hsz, ?_⟩⟩
    have h3 : (cur.toList.take ((n + m) * size)).take (n * size) = (xs ++ ys).take (n * size) := by rw [htake]
    rw [List.take_take, Nat.min_eq_left (Nat.mul_le_mul_right _ (by omega))] at h3
    rw [h3, ← hx]
    simp

theorem owns_frozen {w : World} {base : Nat} {e : TypeId} {size g cap n : Nat} {xs : List Value} (h : w.ownsRow base e size (.slice (some ⟨g, 0, none⟩) n cap) n xs) (j : Nat) : w.frozen? ⟨g, j, none⟩ = false := h.frozenAt j

def vint (v : Nat) : Value := .int .i64 (v : Int)
/-- The cells of the path. -/
def pcells : List (Nat × Nat) → List Value
  | [] => []
  | p :: r => .int .i64 (p.1 : Int) :: .int .i64 (p.2 : Int) :: pcells r
theorem pcells_len (l : List (Nat × Nat)) : (pcells l).length = l.length * 2 := by
  induction l with
  | nil => rfl
  | cons p r ih => simp only [pcells, List.length_cons, ih]; omega
theorem pcells_append (a b : List (Nat × Nat)) : pcells (a ++ b) = pcells a ++ pcells b := by
  induction a with
  | nil => rfl
  | cons p r ih => simp [pcells, ih]
/-- The path, from its root on. -/
def pth : List Fr → List (Nat × Nat)
  | [] => []
  | f :: r => pth r ++ [(f.v, f.e)]
theorem pth_len (l : List Fr) : (pth l).length = l.length := by
  induction l with
  | nil => rfl
  | cons p r ih => simp [pth, ih]

structure TM (N gp n : Nat) (idx low : Nat → Nat) (comp : Nat → Int) (reached : Nat) (sv pv : Value) (ss : List Nat) (ps : List (Nat × Nat)) (wr : World) : Prop where
  g : Row wr N 1 (fun _ => .pointer (some ⟨gp, 0, none⟩))
  cb : Row wr (N + 1) 1 (fun _ => .slice (some ⟨N + 6, 0, none⟩) n n)
  ix : Row wr (N + 2) n (fun v => vint (idx v))
  ib : Row wr (N + 3) 1 (fun _ => .slice (some ⟨N + 2, 0, none⟩) n n)
  lx : Row wr (N + 4) n (fun v => vint (low v))
  lb : Row wr (N + 5) 1 (fun _ => .slice (some ⟨N + 4, 0, none⟩) n n)
  cx : Row wr (N + 6) n (fun v => .int .i64 (comp v))
  sb : Row wr (N + 7) 1 (fun _ => sv)
  pb : Row wr (N + 8) 1 (fun _ => pv)
  rb : Row wr (N + 9) 1 (fun _ => vint reached)
  so : wr.ownsRow (N + 10) 3 1 sv ss.length (ss.map vint)
  po : wr.ownsRow (N + 10) 68 2 pv ps.length (pcells ps)

namespace TM
variable {N gp n : Nat} {idx low : Nat → Nat} {comp : Nat → Int} {reached : Nat} {sv pv : Value} {ss : List Nat} {ps : List (Nat × Nat)} {wr : World}

/-- The stack's array and the path's are two. -/
theorem apart (h : TM N gp n idx low comp reached sv pv ss ps wr) {a : Nat} (hs : sv.ownBlock = some a) (hp : pv.ownBlock = some a) : False := by
  rcases h.so.2 with ⟨h1, _⟩ | ⟨g, cap, cur, h1, _, h2, _⟩
  · rw [h1] at hs; cases hs
  · rcases h.po.2 with ⟨h3, _⟩ | ⟨g', cap', cur', h3, _, h4, _⟩
    · rw [h3] at hp; cases hp
    · rw [h1] at hs
      rw [h3] at hp
      simp only [Value.ownBlock, Option.some.injEq] at hs hp
      subst hs
      subst hp
      rw [h2] at h4
      simp at h4

theorem sbase (h : TM N gp n idx low comp reached sv pv ss ps wr) {a : Nat} (hs : sv.ownBlock = some a) : N + 10 ≤ a ∧ a < wr.heap.size := h.so.lt a hs
theorem pbase (h : TM N gp n idx low comp reached sv pv ss ps wr) {a : Nat} (hs : pv.ownBlock = some a) : N + 10 ≤ a ∧ a < wr.heap.size := h.po.lt a hs

theorem drew (h : TM N gp n idx low comp reached sv pv ss ps wr) : TM N gp n idx low comp reached sv pv ss ps wr.drew :=
  ⟨h.g, h.cb, h.ix, h.ib, h.lx, h.lb, h.cx, h.sb, h.pb, h.rb, h.so, h.po⟩
theorem drewN (h : TM N gp n idx low comp reached sv pv ss ps wr) (k : Nat) : TM N gp n idx low comp reached sv pv ss ps (wr.drewN k) :=
  ⟨h.g, h.cb, h.ix, h.ib, h.lx, h.lb, h.cx, h.sb, h.pb, h.rb, h.so, h.po⟩
theorem alloc (h : TM N gp n idx low comp reached sv pv ss ps wr) (o : Obj) : TM N gp n idx low comp reached sv pv ss ps (wr.alloc o) :=
  ⟨h.g.alloc _, h.cb.alloc _, h.ix.alloc _, h.ib.alloc _, h.lx.alloc _, h.lb.alloc _, h.cx.alloc _, h.sb.alloc _, h.pb.alloc _, h.rb.alloc _, h.so.alloc _, h.po.alloc _⟩

theorem setIdx (h : TM N gp n idx low comp reached sv pv ss ps wr) (v a : Nat) : TM N gp n (upd idx v a) low comp reached sv pv ss ps (wr.setCell ⟨N + 2, v, none⟩ (.int .i64 (a : Int))) :=
  ⟨h.g.setOther (by simp) _, h.cb.setOther (by simp) _, (h.ix.set v _).congr (fun i _ => by unfold upd; split <;> simp_all [vint]), h.ib.setOther (by simp) _, h.lx.setOther (by simp) _, h.lb.setOther (by simp) _, h.cx.setOther (by simp) _, h.sb.setOther (by simp) _, h.pb.setOther (by simp) _, h.rb.setOther (by simp) _,
    ownsRow_setCell_below h.so (by simp) _, ownsRow_setCell_below h.po (by simp) _⟩
theorem setLow (h : TM N gp n idx low comp reached sv pv ss ps wr) (v a : Nat) : TM N gp n idx (upd low v a) comp reached sv pv ss ps (wr.setCell ⟨N + 4, v, none⟩ (.int .i64 (a : Int))) :=
  ⟨h.g.setOther (by simp) _, h.cb.setOther (by simp) _, h.ix.setOther (by simp) _, h.ib.setOther (by simp) _, (h.lx.set v _).congr (fun i _ => by unfold upd; split <;> simp_all [vint]), h.lb.setOther (by simp) _, h.cx.setOther (by simp) _, h.sb.setOther (by simp) _, h.pb.setOther (by simp) _, h.rb.setOther (by simp) _,
    ownsRow_setCell_below h.so (by simp) _, ownsRow_setCell_below h.po (by simp) _⟩
theorem setComp (h : TM N gp n idx low comp reached sv pv ss ps wr) (v : Nat) (a : Int) : TM N gp n idx low (upd comp v a) reached sv pv ss ps (wr.setCell ⟨N + 6, v, none⟩ (.int .i64 a)) :=
  ⟨h.g.setOther (by simp) _, h.cb.setOther (by simp) _, h.ix.setOther (by simp) _, h.ib.setOther (by simp) _, h.lx.setOther (by simp) _, h.lb.setOther (by simp) _, (h.cx.set v _).congr (fun i _ => by unfold upd; split <;> simp_all), h.sb.setOther (by simp) _, h.pb.setOther (by simp) _, h.rb.setOther (by simp) _,
    ownsRow_setCell_below h.so (by simp) _, ownsRow_setCell_below h.po (by simp) _⟩
theorem setReached (h : TM N gp n idx low comp reached sv pv ss ps wr) (a : Nat) : TM N gp n idx low comp a sv pv ss ps (wr.setCell ⟨N + 9, 0, none⟩ (.int .i64 (a : Int))) :=
  ⟨h.g.setOther (by simp) _, h.cb.setOther (by simp) _, h.ix.setOther (by simp) _, h.ib.setOther (by simp) _, h.lx.setOther (by simp) _, h.lb.setOther (by simp) _, h.cx.setOther (by simp) _, h.sb.setOther (by simp) _, h.pb.setOther (by simp) _,
    (h.rb.set 0 _).congr (fun i hi => by rw [if_pos (by omega)]; rfl), ownsRow_setCell_below h.so (by simp) _, ownsRow_setCell_below h.po (by simp) _⟩

/-- The stack's variable takes another value, which owns what is said. -/
theorem setS {sv' : Value} {ss' : List Nat} (h : TM N gp n idx low comp reached sv pv ss ps wr) (hown : wr.ownsRow (N + 10) 3 1 sv' ss'.length (ss'.map vint)) : TM N gp n idx low comp reached sv' pv ss' ps (wr.setCell ⟨N + 7, 0, none⟩ sv') :=
  ⟨h.g.setOther (by simp) _, h.cb.setOther (by simp) _, h.ix.setOther (by simp) _, h.ib.setOther (by simp) _, h.lx.setOther (by simp) _, h.lb.setOther (by simp) _, h.cx.setOther (by simp) _, (h.sb.set 0 _).congr (fun i hi => by rw [if_pos (by omega)]), h.pb.setOther (by simp) _,
    h.rb.setOther (by simp) _, ownsRow_setCell_below hown (by simp) _, ownsRow_setCell_below h.po (by simp) _⟩
theorem setP {pv' : Value} {ps' : List (Nat × Nat)} (h : TM N gp n idx low comp reached sv pv ss ps wr) (hown : wr.ownsRow (N + 10) 68 2 pv' ps'.length (pcells ps')) : TM N gp n idx low comp reached sv pv' ss ps' (wr.setCell ⟨N + 8, 0, none⟩ pv') :=
  ⟨h.g.setOther (by simp) _, h.cb.setOther (by simp) _, h.ix.setOther (by simp) _, h.ib.setOther (by simp) _, h.lx.setOther (by simp) _, h.lb.setOther (by simp) _, h.cx.setOther (by simp) _, h.sb.setOther (by simp) _, (h.pb.set 0 _).congr (fun i hi => by rw [if_pos (by omega)]),
    h.rb.setOther (by simp) _, ownsRow_setCell_below h.so (by simp) _, ownsRow_setCell_below hown (by simp) _⟩

/-- Behind an append to the stack, its variable not yet written. -/
theorem grownS {sv' : Value} {ss' : List Nat} {w1 : World} (h : TM N gp n idx low comp reached sv pv ss ps wr) (hg : wr.grownBy w1 sv.ownBlock) (hown : w1.ownsRow (N + 10) 3 1 sv' ss'.length (ss'.map vint)) :
    TM N gp n idx low comp reached sv' pv ss' ps (w1.setCell ⟨N + 7, 0, none⟩ sv') := by
  have hb : ∀ k, k < N + 10 → some k ≠ sv.ownBlock := by
    intro k hk e
    have := h.sbase e.symm
    omega
  have hp : w1.ownsRow (N + 10) 68 2 pv ps.length (pcells ps) := by
    refine h.po.kept hg ?_
    cases hv : pv.ownBlock with
    | none => exact Or.inl rfl
    | some a => exact Or.inr (fun e => h.apart e.symm hv)
  exact ⟨(Row.grown h.g hg (hb _ (by omega))).setOther (by simp) _, (Row.grown h.cb hg (hb _ (by omega))).setOther (by simp) _, (Row.grown h.ix hg (hb _ (by omega))).setOther (by simp) _, (Row.grown h.ib hg (hb _ (by omega))).setOther (by simp) _,
    (Row.grown h.lx hg (hb _ (by omega))).setOther (by simp) _, (Row.grown h.lb hg (hb _ (by omega))).setOther (by simp) _, (Row.grown h.cx hg (hb _ (by omega))).setOther (by simp) _, ((Row.grown h.sb hg (hb _ (by omega))).set 0 _).congr (fun i hi => by rw [if_pos (by omega)]),
    (Row.grown h.pb hg (hb _ (by omega))).setOther (by simp) _, (Row.grown h.rb hg (hb _ (by omega))).setOther (by simp) _, ownsRow_setCell_below hown (by simp) _, ownsRow_setCell_below hp (by simp) _⟩
theorem grownP {pv' : Value} {ps' : List (Nat × Nat)} {w1 : World} (h : TM N gp n idx low comp reached sv pv ss ps wr) (hg : wr.grownBy w1 pv.ownBlock) (hown : w1.ownsRow (N + 10) 68 2 pv' ps'.length (pcells ps')) :
    TM N gp n idx low comp reached sv pv' ss ps' (w1.setCell ⟨N + 8, 0, none⟩ pv') := by
  have hb : ∀ k, k < N + 10 → some k ≠ pv.ownBlock := by
    intro k hk e
    have := h.pbase e.symm
    omega
  have hs : w1.ownsRow (N + 10) 3 1 sv ss.length (ss.map vint) := by
    refine h.so.kept hg ?_
    cases hv : sv.ownBlock with
    | none => exact Or.inl rfl
    | some a => exact Or.inr (fun e => h.apart hv e.symm)
  exact ⟨(Row.grown h.g hg (hb _ (by omega))).setOther (by simp) _, (Row.grown h.cb hg (hb _ (by omega))).setOther (by simp) _, (Row.grown h.ix hg (hb _ (by omega))).setOther (by simp) _, (Row.grown h.ib hg (hb _ (by omega))).setOther (by simp) _,
    (Row.grown h.lx hg (hb _ (by omega))).setOther (by simp) _, (Row.grown h.lb hg (hb _ (by omega))).setOther (by simp) _, (Row.grown h.cx hg (hb _ (by omega))).setOther (by simp) _, (Row.grown h.sb hg (hb _ (by omega))).setOther (by simp) _,
    ((Row.grown h.pb hg (hb _ (by omega))).set 0 _).congr (fun i hi => by rw [if_pos (by omega)]), (Row.grown h.rb hg (hb _ (by omega))).setOther (by simp) _, ownsRow_setCell_below hs (by simp) _, ownsRow_setCell_below hown (by simp) _⟩

/-- The last edge counter of the path is written. -/
theorem setEdge {g cap v e e' : Nat} {ps : List (Nat × Nat)} (h : TM N gp n idx low comp reached sv (.slice (some ⟨g, 0, none⟩) (ps.length + 1) cap) ss (ps ++ [(v, e)]) wr) :
    TM N gp n idx low comp reached sv (.slice (some ⟨g, 0, none⟩) (ps.length + 1) cap) ss (ps ++ [(v, e')]) (wr.setCell ⟨g, ps.length * 2 + 1, none⟩ (.int .i64 (e' : Int))) := by
  have hb := h.pbase (a := g) rfl
  have hs : sv.ownBlock ≠ some g := fun e => h.apart e rfl
  have hpo := h.po
  rw [List.length_append, List.length_singleton] at hpo
  have hst := (hpo.stored (ps.length * 2 + 1) (.int .i64 (e' : Int))).1
  refine ⟨h.g.setOther (by simp; omega) _, h.cb.setOther (by simp; omega) _, h.ix.setOther (by simp; omega) _, h.ib.setOther (by simp; omega) _, h.lx.setOther (by simp; omega) _, h.lb.setOther (by simp; omega) _, h.cx.setOther (by simp; omega) _, h.sb.setOther (by simp; omega) _, h.pb.setOther (by simp; omega) _,
    h.rb.setOther (by simp; omega) _, ownsRow_setCell_other h.so (by simpa using hs) _, ?_⟩
  rw [List.length_append, List.length_singleton]
  have e1 : (pcells (ps ++ [(v, e)])).set (ps.length * 2 + 1) (.int .i64 (e' : Int)) = pcells (ps ++ [(v, e')]) := by
    rw [pcells_append, pcells_append, List.set_append_right _ _ (by rw [pcells_len]; omega), pcells_len]
    rw [show ps.length * 2 + 1 - ps.length * 2 = 1 by omega]
    rfl
  rw [e1] at hst
  exact hst
end TM

end Go.Proofs.Qxb6601391a.TJ
