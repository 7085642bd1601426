/-
  Rows of cells, slices that came in, texts of bytes.
-/
import Derived.Test.Qxb6601492aProg
import Derived.WalkKit
import Derived.OpenShut
import Derived.WalkSpells
import Derived.WalkLawsBesides
import Derived.Deep.OwnRows
import Derived.Deep.QuietTactic
import Derived.BigQuiet
import Derived.Deep.LoopGhost
import Derived.Deep.Light
namespace Go.Proofs.Qxb6601492a.SJ
open Go.RowKit

/-- A CONTRACT, WHAT IT SAYS BEHIND A LETTER: so the walk does not go into it. -/
theorem calls_hide {P : Program} {f : FuncId} {args : Array Value} {w : World} {R : Ending → World → Prop} (h : ∀ R' : Ending → World → Prop, Hid (∀ e w', R e w' → R' e w') → Calls P f args w R') : Calls P f args w R :=
  h R (fun _ _ h => h)

/-- BLOCK b BEGINS WITH n CELLS THAT HOLD 'f i', NONE FROZEN. (What lies behind them is left open.) -/
def Row (w : World) (b n : Nat) (f : Nat → Value) : Prop :=
  ∃ (c : Array Value) (t : TypeId), w.heap[b]? = some (.cells c t (0, 0)) ∧ n ≤ c.size ∧ ∀ i, i < n → c[i]? = some (f i)

namespace Row
variable {w : World} {b n : Nat} {f g : Nat → Value}
theorem cell (h : Row w b n f) {i : Nat} (hi : i < n) : w.cell? ⟨b, i, none⟩ = some (f i) := by
  obtain ⟨c, t, hb, _, hc⟩ := h
  simp [World.cell?, hb, hc i hi]
theorem frozen (h : Row w b n f) (i : Nat) : w.frozen? ⟨b, i, none⟩ = false := by
  obtain ⟨c, t, hb, _, _⟩ := h
  simp [World.frozen?, hb]
theorem lt (h : Row w b n f) : b < w.heap.size := by
  obtain ⟨c, t, hb, _, _⟩ := h
  exact (Array.getElem?_eq_some_iff.1 hb).1
theorem congr (h : Row w b n f) (e : ∀ i, i < n → f i = g i) : Row w b n g := by
  obtain ⟨c, t, hb, hn, hc⟩ := h
  exact ⟨c, t, hb, hn, fun i hi => by rw [hc i hi, e i hi]⟩
theorem of_block {w' : World} (h : Row w b n f) (e : w'.heap[b]? = w.heap[b]?) : Row w' b n f := by
  obtain ⟨c, t, hb, hn, hc⟩ := h
  exact ⟨c, t, e.trans hb, hn, hc⟩
theorem set (h : Row w b n f) (i : Nat) (v : Value) : Row (w.setCell ⟨b, i, none⟩ v) b n (fun j => if j = i then v else f j) := by
  obtain ⟨c, t, hb, hn, hc⟩ := h
  refine ⟨c.setIfInBounds i v, t, ?_, by simpa using hn, fun j hj => ?_⟩
  · simp [World.setCell, Array.getElem?_modify, hb]
  · rw [Array.getElem?_setIfInBounds]
    by_cases e : j = i
    · subst e
      have : j < c.size := by omega
      simp [this]
    · rw [if_neg (fun h => e h.symm)]
      show c[j]? = some (if j = i then v else f j)
      rw [if_neg e]
      exact hc j hj
theorem setOther (h : Row w b n f) {a : Addr} (ha : b ≠ a.block) (v : Value) : Row (w.setCell a v) b n f := h.of_block (Deep.blk_setCell_other _ _ _ _ ha)
theorem alloc (h : Row w b n f) (o : Obj) : Row (w.alloc o) b n f := h.of_block (Deep.blk_alloc_lt _ _ _ h.lt)
theorem drew (h : Row w b n f) : Row w.drew b n f := h
theorem drewN (h : Row w b n f) (k : Nat) : Row (w.drewN k) b n f := h.of_block (by simp)
theorem below {w' : World} {B : Nat} (h : Row w b n f) (hb : Below B w w') (hB : b < B) : Row w' b n f := h.of_block (hb.block _ hB)
theorem later {w' : World} (h : Row w b n f) (hb : Below w.heap.size w w') : Row w' b n f := h.of_block (hb.block _ h.lt)
theorem made (w : World) (z : Value) (n : Nat) (t : TypeId) : Row (w.alloc (.cells (madeCells #[z] n) t)) w.heap.size n (fun _ => z) :=
  ⟨_, t, Deep.blk_alloc_new _ _, by rw [size_madeCells]; exact Nat.le_refl _, fun i hi => by simp [madeCells, hi, Nat.mod_one]⟩
theorem lits (w : World) (c : Array Value) (t : TypeId) (n : Nat) (f : Nat → Value) (hn : n ≤ c.size) (hc : ∀ i, i < n → c[i]? = some (f i)) : Row (w.alloc (.cells c t)) w.heap.size n f :=
  ⟨c, t, Deep.blk_alloc_new _ _, hn, hc⟩
theorem mono (h : Row w b n f) {m : Nat} (hm : m ≤ n) : Row w b m f := by
  obtain ⟨c, t, hb, hn, hc⟩ := h
  exact ⟨c, t, hb, by omega, fun i hi => hc i (by omega)⟩
theorem owned {base e g k cap : Nat} {xs : List Value} (h : w.ownsRow base e 1 (.slice (some ⟨g, 0, none⟩) k cap) k xs) : Row w g k (fun i => xs.getD i (.int .i64 0)) := by
  rcases h with ⟨hl, ⟨h', _⟩ | ⟨g', cap', cur, h', _, hg, hk, _, hs, htake⟩⟩
  · simp at h'
  · simp only [Value.slice.injEq, Option.some.injEq, Addr.mk.injEq, and_true, true_and] at h'
    obtain ⟨rfl, rfl⟩ := h'
    refine ⟨cur, e, hg, by omega, fun i hi => ?_⟩
    subst htake
    dsimp only
    rw [List.getD_eq_getElem?_getD, List.getElem?_take, if_pos (by omega), Array.getElem?_toList, Array.getElem?_eq_getElem (by omega)]
    rfl
end Row

theorem lt_of_cell {w : World} {a : Addr} {v : Value} (h : w.cell? a = some v) : a.block < w.heap.size := by
  rcases Nat.lt_or_ge a.block w.heap.size with hl | hl
  · exact hl
  · simp [World.cell?, Array.getElem?_eq_none hl] at h

/-- A SLICE OF INTEGERS THAT CAME IN. -/
structure Ints (k : IntKind) (w : World) (a : Option Addr) (len : Nat) (f : Nat → Int) : Prop where
  cell : ∀ i, i < len → ∃ b o, a = some ⟨b, o, none⟩ ∧ w.cell? ⟨b, o + i, none⟩ = some (.int k (f i))
  wf : ∀ i, i < len → (Lit.int k (f i)).wf = true
  nil : a = none → len = 0
  bd : len ≤ 9223372036854775807
theorem Ints.later {k : IntKind} {w w' : World} {a : Option Addr} {len : Nat} {f : Nat → Int} (h : Ints k w a len f) (hb : Below w.heap.size w w') : Ints k w' a len f :=
  ⟨fun i hi => by
    obtain ⟨b, o, e, hc⟩ := h.cell i hi
    exact ⟨b, o, e, (hb.cell (lt_of_cell hc)).trans hc⟩, h.wf, h.nil, h.bd⟩
theorem Ints.drewN {k : IntKind} {w : World} {a : Option Addr} {len : Nat} {f : Nat → Int} (h : Ints k w a len f) (n : Nat) : Ints k (w.drewN n) a len f := ⟨h.cell, h.wf, h.nil, h.bd⟩
theorem Ints.cellAt {k : IntKind} {w : World} {b o len : Nat} {f : Nat → Int} (h : Ints k w (some ⟨b, o, none⟩) len f) {i : Nat} (hi : i < len) : w.cell? ⟨b, o + i, none⟩ = some (.int k (f i)) := by
  obtain ⟨b2, o2, e, hc⟩ := h.cell i hi
  simp only [Option.some.injEq, Addr.mk.injEq, and_true] at e
  obtain ⟨rfl, rfl⟩ := e
  exact hc
theorem wf64 {n : Int} (h : (Lit.int .i64 n).wf = true) : -9223372036854775808 ≤ n ∧ n ≤ 9223372036854775807 := bounds_i64 h
theorem wf32 {n : Int} (h : (Lit.int .i32 n).wf = true) : -2147483648 ≤ n ∧ n ≤ 2147483647 := bounds_i32 h


/-- A TEXT OF n BYTES, in a row from its block's first cell on. -/
structure Text (w : World) (ta : Option Addr) (n : Nat) (f : Nat → Nat) : Prop where
  row : 0 < n → ∃ b, ta = some ⟨b, 0, none⟩ ∧ Row w b n (fun i => .int .u8 (f i : Int))
  bd : ∀ i, i < n → f i < 256
theorem Text.later {w w' : World} {ta : Option Addr} {n : Nat} {f : Nat → Nat} (h : Text w ta n f) (hb : Below w.heap.size w w') : Text w' ta n f :=
  ⟨fun h0 => by obtain ⟨b, e, hr⟩ := h.row h0; exact ⟨b, e, hr.later hb⟩, h.bd⟩
theorem Text.drewN {w : World} {ta : Option Addr} {n : Nat} {f : Nat → Nat} (h : Text w ta n f) (k : Nat) : Text (w.drewN k) ta n f :=
  ⟨fun h0 => by obtain ⟨b, e, hr⟩ := h.row h0; exact ⟨b, e, hr.drewN k⟩, h.bd⟩
/-- The byte at a place. -/
theorem Text.cell {w : World} {ta : Option Addr} {n : Nat} {f : Nat → Nat} (h : Text w ta n f) {i : Nat} (hi : i < n) : ∃ b, ta = some ⟨b, 0, none⟩ ∧ w.cell? ⟨b, i, none⟩ = some (.int .u8 (f i : Int)) := by
  obtain ⟨b, e, hr⟩ := h.row (by omega)
  exact ⟨b, e, hr.cell hi⟩
theorem wf8 {n : Int} (h : (Lit.int .u8 n).wf = true) : 0 ≤ n ∧ n ≤ 255 := bounds_u8 h
end Go.Proofs.Qxb6601492a.SJ
