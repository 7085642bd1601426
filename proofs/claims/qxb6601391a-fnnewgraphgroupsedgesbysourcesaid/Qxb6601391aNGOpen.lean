import Derived.Test.Qxb6601391aNGLaw
import Derived.OpenShut
namespace Go.Proofs.Qxb6601391a.NG
open Go.RowKit Go.ChangeShapes Go.WideShapes

theorem cells31 : Try.prog.cellsOf 31 = 1 := by kernel_rfl
theorem cells32 : Try.prog.cellsOf 32 = 2 := by kernel_rfl
theorem cells21 : Try.prog.cellsOf 21 = 1 := by kernel_rfl

section
variable {H : Type} {enc : TypeId × Value → H} {w : World}

/-- ONE EDGE, OPENED. -/
theorem open_edge {fuel : Nat} {a : Addr} {cs : List Value} {x : DataW H × List MemPlace} (hc : w.cells? 0 a 2 = some cs) (h : DataW.trod enc Try.prog w 0 (fun _ => true) true fuel 32 cs = some x) :
    ∃ b o s t, a = ⟨b, o, none⟩ ∧ w.cell? ⟨b, o, none⟩ = some (.int .i32 s) ∧ w.cell? ⟨b, o + 1, none⟩ = some (.int .i32 t) ∧ (Lit.int .i32 s).wf = true ∧ (Lit.int .i32 t).wf = true := by
  obtain ⟨xs, m, _, _, hl, hn, hx⟩ := DataW.trod_array Try.underlying32 h
  rw [cells32] at hl
  obtain ⟨_, _, hcell⟩ := World.cells?_some hc
  match cs, hl with
  | [c0, c1], _ =>
    have h0 := hx 0 (by omega)
    have h1 := hx 1 (by omega)
    rw [cells21] at h0 h1
    rw [List.getElem?_eq_getElem (by omega)] at h0 h1
    obtain ⟨s, e0, _, ws⟩ := DataW.trod_int Try.underlying21 h0
    obtain ⟨t, e1, _, wt⟩ := DataW.trod_int Try.underlying21 h1
    simp at e0 e1
    subst e0 e1
    have g0 := hcell 0 (by omega)
    have g1 := hcell 1 (by omega)
    simp only [List.getElem?_cons_zero, List.getElem?_cons_succ] at g0 g1
    obtain ⟨b, o, spot⟩ := a
    have hspot : spot = none := by simpa [Addr.add] using World.cell?_spot g0
    subst hspot
    refine ⟨b, o, s, t, rfl, ?_, ?_, ws, wt⟩
    · simpa [Addr.add] using g0
    · simpa [Addr.add] using g1

theorem wf32 {n : Int} (h : (Lit.int .i32 n).wf = true) : -2147483648 ≤ n ∧ n ≤ 2147483647 := by
  have := bounds_i32 h
  omega

/-- ONE BLOCK, OPENED. -/
theorem open_block {fuel : Nat} {v : Value} {x : DataW H × List MemPlace} (h : DataW.trod enc Try.prog w 0 (fun _ => true) true fuel 31 [v] = some x) :
    ∃ y : Option Addr × Nat × Nat × (Nat → Int) × (Nat → Int), v = .slice y.1 y.2.1 y.2.2.1 ∧ (y.1 = none → y.2.2.1 = 0) ∧ y.2.1 ≤ 9223372036854775807 ∧
      ∀ j, j < y.2.1 → (-2147483648 ≤ y.2.2.2.1 j ∧ y.2.2.2.1 j ≤ 2147483647) ∧ (-2147483648 ≤ y.2.2.2.2 j ∧ y.2.2.2.2 j ≤ 2147483647) ∧
        ∃ b o, y.1 = some ⟨b, o, none⟩ ∧ w.cell? ⟨b, o + j * 2, none⟩ = some (.int .i32 (y.2.2.2.1 j)) ∧ w.cell? ⟨b, o + j * 2 + 1, none⟩ = some (.int .i32 (y.2.2.2.2 j)) := by
  rcases Deep.open_slice Try.underlying31 h with ⟨hcs, _⟩ | ⟨a, len, cap, m, n, D, Pl, hcs, _, hl, hm, hmm, _, hx⟩
  · exact ⟨(none, 0, 0, fun _ => 0, fun _ => 0), by simpa using hcs, fun _ => rfl, Nat.zero_le _, fun j hj => absurd hj (Nat.not_lt_zero _)⟩
  · simp only [if_true] at hmm
    subst hmm
    rw [cells32] at hx
    have hspot : 0 < m → a.spot = none := by
      intro h0
      obtain ⟨cs', h1, h2⟩ := hx 0 h0
      obtain ⟨b, o, s, t, ea, _⟩ := open_edge h1 h2
      rw [Nat.zero_mul] at ea
      have : a = ⟨b, o, none⟩ := by simpa [Addr.add] using ea
      rw [this]
    have hy : ∀ j, j < m → ∃ z : Int × Int, (-2147483648 ≤ z.1 ∧ z.1 ≤ 2147483647) ∧ (-2147483648 ≤ z.2 ∧ z.2 ≤ 2147483647) ∧
        ∃ b o, a = ⟨b, o, none⟩ ∧ w.cell? ⟨b, o + j * 2, none⟩ = some (.int .i32 z.1) ∧ w.cell? ⟨b, o + j * 2 + 1, none⟩ = some (.int .i32 z.2) := by
      intro j hj
      obtain ⟨cs', h1, h2⟩ := hx j hj
      obtain ⟨b, o, s, t, ea, c0, c1, ws, wt⟩ := open_edge h1 h2
      refine ⟨(s, t), wf32 ws, wf32 wt, ?_⟩
      obtain ⟨ab, ao, asp⟩ := a
      have hsp : asp = none := hspot (by omega)
      subst hsp
      rw [Addr.add_lit] at ea
      simp at ea
      obtain ⟨rfl, rfl⟩ := ea
      exact ⟨ab, ao, rfl, c0, c1⟩
    obtain ⟨z, hz⟩ := Deep.choose_lt hy
    refine ⟨(some a, len, m, fun j => (z j).1, fun j => (z j).2), by simpa using hcs, by simp, ?_, fun j hj => ?_⟩
    · show len ≤ _
      unfold maxLen at hm
      omega
    · have hj' : j < len := hj
      obtain ⟨q1, q2, b, o, q3, q4, q5⟩ := hz j (by omega)
      exact ⟨q1, q2, b, o, by rw [q3], q4, q5⟩

/-- THE EDGE LIST, OPENED. -/
theorem open_blocks {fuel : Nat} {a0 : Option Addr} {len cap : Nat} {x : DataW H × List MemPlace} (h : DataW.trod enc Try.prog w 0 (fun _ => true) true fuel 22 [.slice a0 len cap] = some x) :
    len ≤ 9223372036854775807 ∧ (a0 = none → len = 0) ∧ ∃ A L C S T, Blocks w a0 len A L C S T := by
  rcases Deep.open_slice1 Try.underlying22 cells31 h with ⟨hcs, _⟩ | ⟨a, len', cap', m, n, V, D, Pl, hcs, _, hl, hm, hmm, _, hx⟩
  · simp at hcs
    obtain ⟨rfl, rfl, rfl⟩ := hcs
    exact ⟨by omega, fun _ => rfl, fun _ => none, fun _ => 0, fun _ => 0, fun _ _ => 0, fun _ _ => 0, fun i hi => by omega, fun i hi => by omega, fun i hi => by omega, fun i hi => by omega, fun i hi => by omega, fun i hi => by omega⟩
  · simp at hcs
    obtain ⟨rfl, rfl, rfl⟩ := hcs
    simp only [if_true] at hmm
    subst hmm
    refine ⟨by unfold maxLen at hm; omega, by simp, ?_⟩
    have hy := fun i (hi : i < m) => open_block (hx i hi).2
    haveI : Inhabited (Option Addr × Nat × Nat × (Nat → Int) × (Nat → Int)) := ⟨(none, 0, 0, fun _ => 0, fun _ => 0)⟩
    obtain ⟨y, hY⟩ := Deep.choose_lt hy
    refine ⟨fun i => (y i).1, fun i => (y i).2.1, fun i => (y i).2.2.1, fun i => (y i).2.2.2.1, fun i => (y i).2.2.2.2, fun i hi => ?_, fun i hi j hj => ?_, fun i hi j hj => ?_, fun i hi j hj => ?_, fun i hi => ?_, fun i hi => ?_⟩
    · have hc := (hx i (by omega)).1
      have hc0 := (hx 0 (by omega)).1
      rw [(hY i (by omega)).1] at hc
      obtain ⟨b, o, spot⟩ := a
      have hspot : spot = none := by simpa [Addr.add] using World.cell?_spot hc0
      subst hspot
      rw [Addr.add_lit] at hc
      exact ⟨b, o, rfl, hc⟩
    · exact ((hY i (by omega)).2.2.2 j hj).2.2
    · exact ((hY i (by omega)).2.2.2 j hj).1
    · exact ((hY i (by omega)).2.2.2 j hj).2.1
    · exact (hY i (by omega)).2.2.1
    · exact (hY i (by omega)).2.1
end
end Go.Proofs.Qxb6601391a.NG
