import Derived.Test.Qxb6601492aSJApp
import Derived.Laws.BitsAllLaws
import Derived.Deep.RegionHeld3
import Derived.Deep.DeepCutAuto
namespace Go.Proofs.Qxb6601492a.SJ
open Go.RowKit

/-- A unit that stands for itself. -/
def Plain (u : Nat) : Prop := 32 ≤ u ∧ u ≤ 126 ∧ u ≠ 34 ∧ u ≠ 92
theorem plain_or (u : Nat) : Plain u ∨ (u < 32 ∨ 126 < u ∨ u = 34 ∨ u = 92) := by unfold Plain; omega
/-- A digit of sixteen, in lower case. -/
def hx (d : Nat) : Nat := if d < 10 then 48 + d else 87 + d
theorem hx_lt {d : Nat} (h : d < 16) : hx d < 256 := by unfold hx; split <;> omega
def six (u : Nat) : List Nat := [92, 117, hx (u / 4096), hx (u / 256 % 16), hx (u / 16 % 16), hx (u % 16)]
/-- One unit as it is written. -/
def Piece (u : Nat) (p : List Nat) : Prop := (Plain u ∧ p = [u]) ∨ (¬ Plain u ∧ p = six u)
def bval (c : Nat) : Value := .int .u8 (c : Int)

theorem run_hex (w : World) (d : Nat) (hd : d < 16) : (Instr.index 9 (.string { data := #[48, 49, 50, 51, 52, 53, 54, 55, 56, 57, 97, 98, 99, 100, 101, 102] }) (.int .u16 (d : Int))).run Try.prog w = .ok (.int .u8 (hx d : Nat)) w := by
  rw [run_index_string w 9 _ .u16 (d : Int) Try.underlying9]
  have hsz : (({ data := #[48, 49, 50, 51, 52, 53, 54, 55, 56, 57, 97, 98, 99, 100, 101, 102] } : ByteArray).size : Int) = 16 := rfl
  rw [dif_pos ⟨by omega, by rw [hsz]; omega⟩]
  have key : ∀ d : Fin 16, (({ data := #[48, 49, 50, 51, 52, 53, 54, 55, 56, 57, 97, 98, 99, 100, 101, 102] } : ByteArray)[d.val]'(d.isLt)).toNat = hx d.val := by decide
  have := key ⟨d, hd⟩
  simp only [Int.toNat_natCast]
  rw [this]
theorem and15 (u : Nat) (hu : u < 65536) : bits .and .u16 (u : Int) 15 = ((u % 16 : Nat) : Int) := by
  have h := u16_and_nat u 15 hu (by omega)
  have e : u &&& 15 = u % 16 := Nat.and_two_pow_sub_one_eq_mod u 4
  rw [e] at h
  exact h

theorem news_of (w : World) (H : Nat) (hH : w.heap.size = H) (c : List Value) (t : TypeId) : ∀ j u, c[j]? = some u → (w.alloc (.cells c.toArray t)).cell? ((⟨H, 0, none⟩ : Addr).add j) = some u := by
  intro j u hj
  subst hH
  rw [Addr.add_lit, Nat.zero_add, World.cell?_alloc_new]
  simpa using hj

theorem c33 {u : Nat} {w : World} (hu : u < 65536) : Calls Try.prog 33 #[.int .u16 u] w fun e w' => (∃ b : Bool, e = .returned (.bool b) ∧ (b = true ↔ Plain u)) ∧ w' = w := by
  refine calls_hide fun R' hR => ?_
  rcases plain_or u with ⟨h1, h2, h3, h4⟩ | h
  · have d3 : ((u : Int) != 34) = true := by simp; omega
    have d4 : ((u : Int) != 92) = true := by simp; omega
    go_enter Try.func33, Try.ntmps33
    go_wp2
    exact hR.out _ _ ⟨⟨_, rfl, by simp [Plain]; omega⟩, rfl⟩
  · rcases h with h | h | h | h
    · go_enter Try.func33, Try.ntmps33
      go_wp2
      exact hR.out _ _ ⟨⟨_, rfl, by simp [Plain]; omega⟩, rfl⟩
    · go_enter Try.func33, Try.ntmps33
      go_wp2
      exact hR.out _ _ ⟨⟨_, rfl, by simp [Plain]; omega⟩, rfl⟩
    · subst h
      go_enter Try.func33, Try.ntmps33
      go_wp2
      exact hR.out _ _ ⟨⟨_, rfl, by simp [Plain]⟩, rfl⟩
    · subst h
      go_enter Try.func33, Try.ntmps33
      go_wp2
      exact hR.out _ _ ⟨⟨_, rfl, by simp [Plain]⟩, rfl⟩

/-- 'zzHexVal' at a lower-case digit. -/
theorem c34 {d : Nat} {w : World} (hd : d < 16) : Calls Try.prog 34 #[.int .u8 (hx d : Nat)] w fun e w' => e = .returned (.int .i64 d) ∧ w' = w := by
  refine calls_hide fun R' hR => ?_
  by_cases h : d < 10
  · rw [show hx d = 48 + d by unfold hx; rw [if_pos h]]
    have q1 : (48 : Int) ≤ 48 + (d : Int) := by omega
    have q2 : 48 + (d : Int) ≤ 57 := by omega
    go_enter Try.func34, Try.ntmps34
    go_wp2
    show R' (.returned (.int .i64 (48 + (d : Int) - 48))) w
    rw [show 48 + (d : Int) - 48 = d by omega]
    exact hR.out _ _ ⟨rfl, rfl⟩
  · rw [show hx d = 87 + d by unfold hx; rw [if_neg h]]
    have q1 : ¬ (87 + (d : Int) ≤ 57) := by omega
    have q2 : (97 : Int) ≤ 87 + (d : Int) := by omega
    have q3 : 87 + (d : Int) ≤ 102 := by omega
    go_enter Try.func34, Try.ntmps34
    go_wp2
    rw [show 87 + (d : Int) - 97 + 10 = d by omega]
    exact hR.out _ _ ⟨rfl, rfl⟩

/-- What 'appendUnit' leaves. -/
structure Added (base n : Nat) (v : Value) (xs : List Value) (p : List Nat) (w : World) (g cap : Nat) (w' : World) : Prop where
  own : w'.ownsRow base 5 1 (.slice (some ⟨g, 0, none⟩) (n + p.length) cap) (n + p.length) (xs ++ p.map bval)
  below : Below base w w'
  full : (∀ a k, v = .slice a n k → k = n) → Below w.heap.size w w'
theorem added {base n : Nat} {v : Value} {xs : List Value} {p : List Nat} {w w1 : World} {g cap : Nat} (o : Obj) (k : Nat) (hb : base ≤ w.heap.size) (hv : w.ownsRow base 5 1 v n xs) (own : w1.ownsRow base 5 1 (.slice (some ⟨g, 0, none⟩) (n + p.length) cap) (n + p.length) (xs ++ p.map bval))
    (hg : ((w.drewN k).alloc o).grownBy w1 v.ownBlock) (hf : (∀ a k, v = .slice a n k → k = n) → ((w.drewN k).alloc o).grownBy w1 none) : Added base n v xs p w g cap w1 := by
  have h0 : ∀ B, B ≤ w.heap.size → Below B w ((w.drewN k).alloc o) := fun B hB => (below_drewN (Below.refl _ _) k).alloc (by simpa using hB) _
  refine ⟨own, (h0 base hb).grown hg (by simp; omega) (fun j hj => (hv.lt j hj).1), fun h => (h0 _ (Nat.le_refl _)).grown (hf h) (by simp) (fun j hj => by simp at hj)⟩

set_option maxRecDepth 100000 in
set_option maxHeartbeats 2000000 in
theorem c32 {base n : Nat} {v : Value} {xs : List Value} {u : Nat} {w : World} (hu : u < 65536) (hn : n ≤ 16777216) (hbase : base ≤ w.heap.size) (hown : w.ownsRow base 5 1 v n xs) :
    Calls Try.prog 32 #[v, .int .u16 u] w fun e w' => ∃ p g cap, Piece u p ∧ e = .returned (.slice (some ⟨g, 0, none⟩) (n + p.length) cap) ∧ Added base n v xs p w g cap w' := by
  refine calls_hide fun R' hR => ?_
  obtain ⟨i0, hi, hz0, hz1, hz2⟩ := info_parts info5
  rcases plain_or u with hp | hp
  · have HP : Hid _ := hp
    obtain ⟨h1, h2, h3, h4⟩ := hp
    have d3 : ((u : Int) != 34) = true := by simp; omega
    have d4 : ((u : Int) != 92) = true := by simp; omega
    have HS : Hid _ := hown.alloc (.cells #[.int .u8 (u : Int)] 5)
    have HO : Hid _ := hown
    clear hown
    go_enter Try.func32, Try.ntmps32
    go_wp2_with (at_builtin; refine wpList_app rfl _ _ 22 rfl base 5 i0 (.int .u8 0) 1 1 Try.underlying22 hi hz0 hz1 hz2 rfl (by omega) v n xs rfl HS.out ⟨w.heap.size, 0, none⟩ 1 1 [.int .u8 (u : Int)] rfl rfl (news_of _ _ (by simp) [.int .u8 (u : Int)] _) (by simp [Value.oneCell']) (by omega) (by unfold maxLen; omega) (by omega) (by simp; omega) ?_; intro g cap w1 hown1 hgrow1 hfull1)
    have HA : Hid (Added base n v xs [u] w g cap w1) := added (.cells #[.int .u8 (u : Int)] 5) 0 hbase HO.out hown1 hgrow1 hfull1
    clear hown1 hgrow1 hfull1 HS
    go_wp2
    exact hR.out _ _ ⟨[u], g, cap, Or.inl ⟨HP.out, rfl⟩, rfl, HA.out⟩
  · have hnp : ¬ Plain u := by unfold Plain; omega
    have HN : Hid _ := hnp
    clear hnp
    obtain ⟨e2, he2⟩ : ∃ e2, e2 = u / 256 := ⟨_, rfl⟩
    obtain ⟨e1, he1⟩ : ∃ e1, e1 = u / 16 := ⟨_, rfl⟩
    obtain ⟨d3, hd3⟩ : ∃ d3, d3 = u / 4096 := ⟨_, rfl⟩
    obtain ⟨d2, hd2⟩ : ∃ d2, d2 = e2 % 16 := ⟨_, rfl⟩
    obtain ⟨d1, hd1⟩ : ∃ d1, d1 = e1 % 16 := ⟨_, rfl⟩
    obtain ⟨d0, hd0⟩ : ∃ d0, d0 = u % 16 := ⟨_, rfl⟩
    have s3 : (u : Int) / 4096 = (d3 : Int) := by omega
    have s2 : (u : Int) / 256 = (e2 : Int) := by omega
    have s1 : (u : Int) / 16 = (e1 : Int) := by omega
    have b2 : bits .and .u16 (e2 : Int) 15 = (d2 : Int) := by rw [and15 e2 (by omega), hd2]
    have b1 : bits .and .u16 (e1 : Int) 15 = (d1 : Int) := by rw [and15 e1 (by omega), hd1]
    have b0 : bits .and .u16 (u : Int) 15 = (d0 : Int) := by rw [and15 u hu, hd0]
    have i3 := fun w => run_hex w d3 (by omega)
    have i2 := fun w => run_hex w d2 (by omega)
    have i1 := fun w => run_hex w d1 (by omega)
    have i00 := fun w => run_hex w d0 (by omega)
    have HX : Hid (six u = [92, 117, hx d3, hx d2, hx d1, hx d0]) := by show six u = _; unfold six; rw [hd3, hd2, hd1, hd0, he2, he1]
    obtain ⟨a3, ha3⟩ : ∃ a, a = hx d3 := ⟨_, rfl⟩
    obtain ⟨a2, ha2⟩ : ∃ a, a = hx d2 := ⟨_, rfl⟩
    obtain ⟨a1, ha1⟩ : ∃ a, a = hx d1 := ⟨_, rfl⟩
    obtain ⟨a0, ha0⟩ : ∃ a, a = hx d0 := ⟨_, rfl⟩
    rw [← ha3, ← ha2, ← ha1, ← ha0] at HX
    rw [← ha3] at i3
    rw [← ha2] at i2
    rw [← ha1] at i1
    rw [← ha0] at i00
    have HS : Hid _ := (hown.drew).alloc (.cells #[.int .u8 92, .int .u8 117, .int .u8 (a3 : Int), .int .u8 (a2 : Int), .int .u8 (a1 : Int), .int .u8 (a0 : Int)] 5)
    have HO : Hid _ := hown
    clear hown he2 he1 hd3 hd2 hd1 hd0 ha3 ha2 ha1 ha0
    go_enter Try.func32, Try.ntmps32
    go_upto_region 1 with (fail)
    go_cut [18] (fun s wc => s = .bool false ∧ wc = w)
    case first =>
      have f1 : u = 34 → ((u : Int) != 34) = false := fun h => by simp; omega
      have f2 : u = 92 → ((u : Int) != 92) = false := fun h => by simp; omega
      have f3 : u = 92 → ((u : Int) != 34) = true := fun h => by simp; omega
      clear s3 s2 s1 b2 b1 b0 i3 i2 i1 i00
      rcases hp with h | h | h | h
      · clear f1 f2 f3
        go_wp2
        all_goals go_meet
        all_goals exact ⟨rfl, rfl⟩
      · clear f1 f2 f3
        go_wp2
        all_goals go_meet
        all_goals exact ⟨rfl, rfl⟩
      · have q := f1 h
        clear f1 f2 f3
        go_wp2
        all_goals go_meet
        all_goals exact ⟨rfl, rfl⟩
      · have q := f2 h
        have q2 := f3 h
        clear f1 f2 f3
        go_wp2
        all_goals go_meet
        all_goals exact ⟨rfl, rfl⟩
    case rest =>
      obtain ⟨rfl, rfl⟩ := hcut
      go_wp2
      go_region_held3 (fun _ => True) (trivial) ((refine step_app (by rfl) _ _ 22 (by rfl) base 5 i0 (.int .u8 0) 1 1 Try.underlying22 hi hz0 hz1 hz2 rfl (by omega) v n xs (by rfl) HS.out ⟨wc.heap.size, 0, none⟩ 6 6 [.int .u8 92, .int .u8 117, .int .u8 (a3 : Int), .int .u8 (a2 : Int), .int .u8 (a1 : Int), .int .u8 (a0 : Int)] (by rfl) rfl (news_of _ _ (by simp) [.int .u8 92, .int .u8 117, .int .u8 (a3 : Int), .int .u8 (a2 : Int), .int .u8 (a1 : Int), .int .u8 (a0 : Int)] _) (by simp [Value.oneCell']) (by omega) (by unfold maxLen; omega) (by omega) (by simp; omega) ?_; intro g cap w1 hown1 hgrow1 hfull1))
      all_goals
        have HA : Hid (Added base n v xs (six u) wc g cap w1) := by
          rw [HX.out]
          exact added (.cells #[.int .u8 92, .int .u8 117, .int .u8 (a3 : Int), .int .u8 (a2 : Int), .int .u8 (a1 : Int), .int .u8 (a0 : Int)] 5) 1 hbase HO.out hown1 hgrow1 hfull1
        clear hown1 hgrow1 hfull1 HS
        go_wp2
        exact hR.out _ _ ⟨six u, g, cap, Or.inr ⟨HN.out, rfl⟩, rfl, HA.out⟩
end Go.Proofs.Qxb6601492a.SJ
