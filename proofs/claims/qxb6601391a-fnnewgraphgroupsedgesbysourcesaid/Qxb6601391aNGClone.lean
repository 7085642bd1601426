import Derived.Test.Qxb6601391aNGCopy
import Derived.Deep.AppendLies
namespace Go.Proofs.Qxb6601391a.NG
open Go.RowKit

/-- 'slices.Clone' of the first n cells of a row. -/
theorem c25 (w : World) (b n cap : Nat) (f : Nat → Int) (hn : n ≤ 1048576) (h : Row w b n (fun i => .int .i64 (f i))) :
    Calls Try.prog 25 #[.slice (some ⟨b, 0, none⟩) n cap] w fun e w' => (∃ ao' cap', e = .returned (.slice ao' n cap') ∧ (0 < n → ∃ g, ao' = some ⟨g, 0, none⟩ ∧ w.heap.size ≤ g ∧ Row w' g n (fun i => .int .i64 (f i)))) ∧ Below w.heap.size w w' := by
  refine calls_hide fun R' hR => ?_
  have q27 : ∀ (w : World) (a : Option Addr) (n c n' c' : Nat), (binOp .eql 27 (.slice a n c) (.slice none n' c')).run Try.prog w = .ok (.bool a.isNone) w := fun w a n c n' c' => Lib.run_eql_slice_nil w _ _ a n c n' c' Try.underlying27
  obtain ⟨i, hi, hz0, hz1, hz2⟩ := info_parts info3
  have hown : Hid ((w.alloc (.cells #[] 3)).ownsRow w.heap.size 3 1 (.slice (some ⟨w.heap.size, 0, none⟩) 0 0) 0 []) := World.ownsRow_made w #[] 0 (Nat.le_refl _) (Nat.zero_le _) rfl
  have hnews : Hid (∀ j u, ((List.range n).map (fun i => Value.int .i64 (f i)))[j]? = some u → (w.alloc (.cells #[] 3)).cell? ((⟨b, 0, none⟩ : Addr).add j) = some u) := by
    intro j u hu
    obtain ⟨hj, hu'⟩ := List.getElem?_eq_some_iff.1 hu
    have hj' : j < n := by simpa using hj
    rw [Addr.add_lit, Nat.zero_add, (h.alloc _).cell hj', ← hu']
    simp
  have h1 : Hid (∀ u ∈ (List.range n).map (fun i => Value.int .i64 (f i)), u.oneCell' = true) := by
    intro u hu
    obtain ⟨j, _, rfl⟩ := List.mem_map.1 hu
    rfl
  go_enter Try.func25, Try.ntmps25
  go_wp2_with (at_builtin; refine wpList_append_own _ rfl _ _ 27 rfl w.heap.size 3 i (.int .i64 0) 1 8 Try.underlying27 hi hz0 hz1 hz2 rfl (by omega) (.slice (some ⟨w.heap.size, 0, none⟩) 0 0) 0 [] rfl hown.out ⟨b, 0, none⟩ n cap ((List.range n).map (fun i => .int .i64 (f i))) rfl (by simp) hnews.out h1.out (by unfold maxLen; omega) (by omega) (by simp) ?_; intro v' w1 hown' hgrow _)
  have hb : Below w.heap.size w w1 := ((Below.refl _ _).alloc (Nat.le_refl _) _).grown hgrow (by simp) (by simp [Value.ownBlock])
  rcases hown'.2 with ⟨rfl, h0⟩ | ⟨g, cap', cur, rfl, hbg, _⟩
  · obtain rfl : n = 0 := by omega
    exact hR.out _ _ ⟨⟨none, 0, rfl, fun h => by omega⟩, hb⟩
  · simp only [Nat.zero_add] at hown' ⊢
    have hr := (Row.owned hown').congr (g := fun i => .int .i64 (f i)) (fun i hi => by simp [List.getElem?_range hi])
    exact hR.out _ _ ⟨⟨some ⟨g, 0, none⟩, cap', rfl, fun _ => ⟨g, rfl, hbg, hr⟩⟩, hb⟩
end Go.Proofs.Qxb6601391a.NG
