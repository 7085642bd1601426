import Derived.Test.Qxb6601391aTJMem
import Derived.Deep.DeepCutAuto
import Derived.Deep.RegionLaw
namespace Go.Proofs.Qxb6601391a.TJ
open Go.RowKit Go.Proofs.Qxb6601391a.NG

theorem info3 : (Try.prog.info? 3).map (fun i => (i.zero, i.size, i.bytes)) = some (some (.int .i64 0), 1, 8) := by kernel_rfl
theorem info68 : (Try.prog.info? 68).map (fun i => (i.zero, i.size, i.bytes)) = some (some (.agg #[.int .i64 0, .int .i64 0]), 2, 16) := by kernel_rfl

/-- The graph's own cells. -/
def gc (x : Int) (n sb scap : Nat) (tao : Option Addr) (tlen tcap : Nat) : Nat → Value
  | 0 => .int .i64 x
  | 1 => .slice (some ⟨sb, 0, none⟩) (n + 1) scap
  | _ => .slice tao tlen tcap
structure GM (N gp : Nat) (x : Int) (n sb scap : Nat) (tao : Option Addr) (tlen tcap : Nat) (start tg : Nat → Nat) (w : World) : Prop where
  g : Row w gp 3 (gc x n sb scap tao tlen tcap)
  s : Row w sb (n + 1) (fun v => vint (start v))
  t : ∀ j, start 0 ≤ j → j < start n → ∃ tb, tao = some ⟨tb, 0, none⟩ ∧ tb < N ∧ w.cell? ⟨tb, j, none⟩ = some (.int .i32 (tg j : Int))
  hgp : gp < N
  hsb : sb < N
theorem GM.below {N gp : Nat} {x : Int} {n sb scap : Nat} {tao : Option Addr} {tlen tcap : Nat} {start tg : Nat → Nat} {w w' : World} (h : GM N gp x n sb scap tao tlen tcap start tg w) (hb : Below N w w') : GM N gp x n sb scap tao tlen tcap start tg w' :=
  ⟨h.g.below hb h.hgp, h.s.below hb h.hsb, fun j hj hj2 => by
    obtain ⟨tb, e, hl, hc⟩ := h.t j hj hj2
    exact ⟨tb, e, hl, (hb.cell hl).trans hc⟩, h.hgp, h.hsb⟩

theorem news1 (w : World) (H : Nat) (hH : w.heap.size = H) (x : Value) (t : TypeId) : ∀ j u, [x][j]? = some u → (w.alloc (.cells #[x] t)).cell? ((⟨H, 0, none⟩ : Addr).add j) = some u := by
  intro j u hj
  subst hH
  rw [Addr.add_lit, Nat.zero_add, World.cell?_alloc_new]
  simpa using hj
theorem news2 (w : World) (H : Nat) (hH : w.heap.size = H) (x y : Value) (t : TypeId) : ∀ j u, [x, y][j]? = some u → (w.alloc (.cells #[x, y] t)).cell? ((⟨H, 0, none⟩ : Addr).add j) = some u := by
  intro j u hj
  subst hH
  rw [Addr.add_lit, Nat.zero_add, World.cell?_alloc_new]
  simpa using hj

section
variable {N gp n : Nat} {idx low : Nat → Nat} {comp : Nat → Int} {reached : Nat} {sv pv : Value} {ss : List Nat} {ps : List (Nat × Nat)} {w : World} {x : Int} {sb scap : Nat} {tao : Option Addr} {tlen tcap : Nat} {start tg : Nat → Nat}

set_option maxRecDepth 100000 in
set_option maxHeartbeats 1000000 in
theorem c27 (v : Nat) (hv : v < n) (_hn : n ≤ 131072) (hr : reached ≤ 131072) (hss : ss.length ≤ 131072) (hps : ps.length ≤ 131072) (h : TM N gp n idx low comp reached sv pv ss ps w) (hg : GM N gp x n sb scap tao tlen tcap start tg w) :
    Calls Try.prog 27 #[.int .i64 v, .pointer (some ⟨N + 9, 0, none⟩), .pointer (some ⟨N + 3, 0, none⟩), .pointer (some ⟨N + 5, 0, none⟩), .pointer (some ⟨N + 1, 0, none⟩), .pointer (some ⟨N + 7, 0, none⟩), .pointer (some ⟨N + 8, 0, none⟩), .pointer (some ⟨N, 0, none⟩)] w fun e w' =>
      e = .returned (.tuple #[]) ∧ (∃ sv' pv', TM N gp n (upd idx v (reached + 1)) (upd low v (reached + 1)) (upd comp v (-1)) (reached + 1) sv' pv' (ss ++ [v]) (ps ++ [(v, start v)]) w') ∧ Below N w w' := by
  refine calls_hide fun R' hR => ?_
  have c9 : w.cell? ⟨N + 9, 0, none⟩ = some (.int .i64 (reached : Int)) := h.rb.cell (by omega)
  have f9 := h.rb.frozen 0
  have c3 := h.ib.cell (i := 0) (by omega)
  have c5 := h.lb.cell (i := 0) (by omega)
  have c1 := h.cb.cell (i := 0) (by omega)
  have c2 := h.ix.cell hv
  have f2 := h.ix.frozen v
  have c4 := h.lx.cell hv
  have f4 := h.lx.frozen v
  have c6 := h.cx.cell hv
  have f6 := h.cx.frozen v
  have hNw := h.rb.lt
  have q1 : (v : Int) < (n : Int) := by omega
  have H : Hid _ := h
  have HG : Hid _ := hg
  have hgp := hg.hgp
  have hsb := hg.hsb
  clear h hg
  go_enter Try.func27, Try.ntmps27
  go_wp2
  go_cut [] (fun wc => TM N gp n (upd idx v (reached + 1)) (upd low v (reached + 1)) comp (reached + 1) sv pv ss ps wc ∧ Below N w wc)
  case first =>
    go_region
    all_goals go_wp2
    all_goals go_meet
    case rel => exact ⟨(((H.out.setReached (reached + 1)).setIdx v (reached + 1)).setLow v (reached + 1)).drew, ((((Below.refl _ _).setCell (by simp) _).setCell (by simp) _).setCell (by simp) _).drew⟩
  case rest =>
    obtain ⟨hT, hB⟩ := hcut
    clear c9 f9 c3 c5 c1 c2 f2 c4 f4 c6 f6
    have c1 := hT.cb.cell (i := 0) (by omega)
    have c6 := hT.cx.cell hv
    have f6 := hT.cx.frozen v
    have c7 := hT.sb.cell (i := 0) (by omega)
    have hNc := hT.rb.lt
    have HT2 := hT.setComp v (-1)
    have HGc : Hid _ := HG.out
    have HB : Hid _ := hB
    clear hB
    obtain ⟨i0, hi, hz0, hz1, hz2⟩ := info_parts info3
    have HT : Hid _ := HT2
    have HS : Hid _ := (HT2.alloc (.cells #[.int .i64 v] 3)).so
    clear HT2 hT
    go_wp2_with (at_builtin; refine wpList_append_lies _ rfl _ _ 27 rfl (N + 10) 3 i0 (.int .i64 0) 1 8 Try.underlying27 hi hz0 hz1 hz2 rfl (by omega) sv ss.length (ss.map vint) rfl HS.out ⟨wc.heap.size, 0, none⟩ 1 1 [.int .i64 v] rfl rfl ?c1 ?c2 (by omega) ?c3 ?c4 ?c5 _ rfl ?_)
    case c1 => exact news1 _ _ (by simp) _ _
    case c2 => intro u hu; simp at hu; subst hu; rfl
    case c3 => unfold maxLen; omega
    case c4 => omega
    case c5 => simp; omega
    intro g1 cap1 w1 hown1 hgrow1 _ _
    have HT4 : Hid _ := TM.grownS (ss' := ss ++ [v]) (HT.out.alloc (.cells #[.int .i64 v] 3)) hgrow1 (by rw [List.length_append, List.map_append]; exact hown1)
    have HB4 : Hid (Below N w (w1.setCell ⟨N + 7, 0, none⟩ (.slice (some ⟨g1, 0, none⟩) (ss.length + 1) cap1))) :=
      ((((HB.out.setCell (by simp) _).alloc (by simp; omega) _).grown hgrow1 (by simp; omega) (fun k hk => by have := HT.out.sbase hk; omega)).setCell (by simp) _)
    have cr := (Row.grown (HT.out.sb.alloc (.cells #[.int .i64 v] 3)) hgrow1 (fun e => by have := HT.out.sbase e.symm; omega))
    have c71 := cr.cell (i := 0) (by omega)
    have f71 := cr.frozen 0
    clear cr hown1 hgrow1 HS HT HB c1 c6 f6 c7
    go_wp2
    generalize hW : w1.setCell ⟨N + 7, 0, none⟩ (.slice (some ⟨g1, 0, none⟩) (ss.length + 1) cap1) = W4 at *
    clear hW c71 f71
    have c8 := HT4.out.pb.cell (i := 0) (by omega)
    have f8 := HT4.out.pb.frozen 0
    have c8' : ∀ o, (W4.alloc o).cell? ⟨N + 8, 0, none⟩ = some pv := fun o => (HT4.out.pb.alloc o).cell (i := 0) (by omega)
    have c0 := HT4.out.g.cell (i := 0) (by omega)
    have hG4 := HG.out.below HB4.out
    have cg : W4.cell? ⟨gp, 1, none⟩ = some (.slice (some ⟨sb, 0, none⟩) (n + 1) scap) := hG4.g.cell (i := 1) (by omega)
    have cs : W4.cell? ⟨sb, v, none⟩ = some (.int .i64 (start v : Int)) := hG4.s.cell (i := v) (by omega)
    have hN4 := HT4.out.rb.lt
    have q2 : (v : Int) < (n : Int) + 1 := by omega
    obtain ⟨i1, hi1, hy0, hy1, hy2⟩ := info_parts info68
    have HS : Hid _ := (HT4.out.drew.alloc (.cells #[.int .i64 v, .int .i64 (start v)] 68)).po
    clear hG4
    go_region_law ((refine step_append_lies _ (by rfl) _ _ 66 (by rfl) (N + 10) 68 i1 (.agg #[.int .i64 0, .int .i64 0]) 2 16 Try.underlying66 hi1 hy0 hy1 hy2 rfl (by omega) pv ps.length (pcells ps) (by rfl) HS.out ⟨W4.heap.size, 0, none⟩ 1 1 [.int .i64 v, .int .i64 (start v)] (by rfl) rfl (news2 _ _ (by simp) _ _ _) (by simp [Value.oneCell']) (by omega) (by unfold maxLen; omega) (by omega) (by simp; omega) _ rfl ?_; intro g2 cap2 w2 hown2 hgrow2 hat2 hlt2; have c82 := (Row.grown (HT4.out.drew.alloc (.cells #[.int .i64 v, .int .i64 (start v)] 68)).pb hgrow2 (fun e => by have := HT4.out.pbase e.symm; omega)).cell (i := 0) (by omega); have f82 := (Row.grown (HT4.out.drew.alloc (.cells #[.int .i64 v, .int .i64 (start v)] 68)).pb hgrow2 (fun e => by have := HT4.out.pbase e.symm; omega)).frozen 0))
    all_goals
      go_end0
      refine hR.out _ _ ⟨rfl, ⟨_, _, TM.grownP (ps' := ps ++ [(v, start v)]) (HT4.out.drew.alloc (.cells #[.int .i64 v, .int .i64 (start v)] 68)) hgrow2 ?_⟩, ?_⟩
      · rw [List.length_append, pcells_append]; exact hown2
      · exact (((HB4.out.drew.alloc (by simp; omega) _).grown hgrow2 (by simp; omega) (fun k hk => by have := HT4.out.pbase hk; omega)).setCell (by simp) _)
end
end Go.Proofs.Qxb6601391a.TJ
