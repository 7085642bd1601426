import Derived.Test.Qxb6601391aTJComp
import Derived.Test.Qxb6601391aTJSmall
import Derived.Test.Qxb6601391aTJBfs
namespace Go.Proofs.Qxb6601391a.TJ
open Go.RowKit Go.Proofs.Qxb6601391a.NG

/-- A graph in rows of the law's own. -/
structure RG (n sb : Nat) (tao : Option Addr) (tlen : Nat) (start tg : Nat → Nat) (w : World) : Prop where
  s : Row w sb (n + 1) (fun v => vint (start v))
  t : ∀ j, start 0 ≤ j → j < start n → ∃ tb, tao = some ⟨tb, 0, none⟩ ∧ w.cell? ⟨tb, j, none⟩ = some (.int .i32 (tg j : Int))
  mono : ∀ v, v < n → start v ≤ start (v + 1)
  hi : start n ≤ tlen
  edge : ∀ u, u < n → ∀ j, start u ≤ j → j < start (u + 1) → tg j < n
theorem RG.later {n sb : Nat} {tao : Option Addr} {tlen : Nat} {start tg : Nat → Nat} {w w' : World} (h : RG n sb tao tlen start tg w) (hb : Below w.heap.size w w') : RG n sb tao tlen start tg w' :=
  ⟨h.s.later hb, fun j hj hj2 => by
    obtain ⟨tb, e, hc⟩ := h.t j hj hj2
    exact ⟨tb, e, (hb.cell (lt_of_cell hc)).trans hc⟩, h.mono, h.hi, h.edge⟩

section
variable {n sb scap : Nat} {tao : Option Addr} {tlen tcap : Nat} {start tg : Nat → Nat} {w : World}

set_option maxRecDepth 100000 in
theorem c19 (x : Int) (hn : n ≤ 131072) (htl : tlen ≤ 1048576) (h : RG n sb tao tlen start tg w) :
    Calls Try.prog 19 #[.int .i64 x, .slice (some ⟨sb, 0, none⟩) (n + 1) scap, .slice tao tlen tcap] w fun e w' => (∃ cb comp count, e = .returned (.tuple #[.slice (some ⟨cb, 0, none⟩) n n, .int .i64 (count : Nat)]) ∧ Row w' cb n (fun v => .int .i64 (comp v)) ∧ Res n start tg comp count) ∧ Below w.heap.size w w' := by
  refine calls_hide fun R' hR => ?_
  have hG : GM (w.heap.size + 1) w.heap.size x n sb scap tao tlen tcap start tg (w.alloc (.cells #[.int .i64 x, .slice (some ⟨sb, 0, none⟩) (n + 1) scap, .slice tao tlen tcap] 54)) := by
    refine ⟨Row.lits w _ 54 3 _ (by simp) (fun i hi => ?_), h.s.alloc _, fun j hj hj2 => ?_, by omega, by have := h.s.lt; omega⟩
    · match i, hi with
      | 0, _ => rfl
      | 1, _ => rfl
      | 2, _ => rfl
    · obtain ⟨tb, e, hc⟩ := h.t j hj hj2
      have hl := lt_of_cell hc
      exact ⟨tb, e, by simp at hl; omega, by rw [World.cell?_alloc_lt _ _ _ hl]; exact hc⟩
  have HG : Hid _ := hG
  have Hh : Hid _ := h
  clear hG h
  go_enter Try.func19, Try.ntmps19
  go_wp2_with fail
  refine (c23 (N := w.heap.size + 1) (by simp) hn HG.out Hh.out.mono Hh.out.hi htl Hh.out.edge).mono ?_
  rintro e w1 ⟨⟨cb, comp, count, rfl, hc, hres⟩, hb⟩
  have HB : Hid _ := ((Below.refl w.heap.size w).alloc (Nat.le_refl _) (.cells #[.int .i64 x, .slice (some ⟨sb, 0, none⟩) (n + 1) scap, .slice tao tlen tcap] 54)).trans (hb.mono (by omega))
  have HC : Hid _ := hc
  have HR : Hid _ := hres
  clear hc hres hb
  go_wp2
  exact hR.out _ _ ⟨⟨cb, comp, count, rfl, HC.out, HR.out⟩, HB.out⟩
end
end Go.Proofs.Qxb6601391a.TJ
