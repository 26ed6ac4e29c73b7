/-
  SHAPES AND SMALL WALKS for seat b6627983a: the bounds (5, 10), zzWellFormed (6), ZZOrd (9), ZZNewSchedule (11), ZZSetStep (12), ZZFromOrd (13).
-/
import Derived.Test.Qxb6627983aRows
import Derived.WalkKit
import Derived.WalkSpells
import Derived.WalkLawsBesides
import Derived.Deep.RegionHeld3
import Derived.Deep.QuietTactic
import Derived.BigQuiet
namespace Go.Proofs.Qxb6627983a
open Go.RowKit

/-- A slice of integers that came in: n elements, the numbers Z. -/
structure IntSl (k : IntKind) (w : World) (ao : Option Addr) (n : Nat) (Z : Nat → Int) : Prop where
  le : n ≤ maxLen
  cell : ∀ i, i < n → ∃ b o, ao = some ⟨b, o, none⟩ ∧ w.cell? ⟨b, o + i, none⟩ = some (.int k (Z i))

theorem kept_cell {w w' : World} (h : Below w.heap.size w w') {a : Addr} {v : Value} (hc : w.cell? a = some v) : w'.cell? a = some v :=
  (h.cell (World.block_lt_of_cell? w a hc)).trans hc
theorem IntSl.keep {k : IntKind} {w w' : World} {ao : Option Addr} {n : Nat} {Z : Nat → Int} (h : IntSl k w ao n Z) (hb : Below w.heap.size w w') : IntSl k w' ao n Z :=
  ⟨h.le, fun i hi => let ⟨b, o, e, h1⟩ := h.cell i hi; ⟨b, o, e, kept_cell hb h1⟩⟩
theorem chainB {B : Nat} {W wa wb : World} (h : Below B W wa) (hb : Below wa.heap.size wa wb) (hs : B ≤ W.heap.size) : Below B W wb := h.trans (hb.mono (Nat.le_trans hs h.size))
theorem undrew {X y : World} (h : Below X.drew.heap.size X.drew y) : Below X.heap.size X y := ⟨h.os, h.tape, h.output, h.size, h.block⟩

/-- A bool is returned, the world as it was; T holds of the bool. -/
def Ans (e : Ending) (w w' : World) (T : Bool → Prop) : Prop := ∃ r, e = .returned (.bool r) ∧ w' = w ∧ T r
theorem Ans.mk {e : Ending} {w w' : World} {T : Bool → Prop} {r : Bool} (h : e = .returned (.bool r)) (hb : w' = w) (ht : T r) : Ans e w w' T := ⟨r, h, hb, ht⟩

set_option maxHeartbeats 800000 in
theorem bytes5 (a b : Option Addr) (n m c d : Nat) (k : Int) (w : World) (hn : n ≤ maxLen) (hm : m ≤ maxLen) :
    Calls Try.prog 5 #[.slice a n c, .slice b m d, .int .i64 k] w fun e w' => Ans e w w' (fun _ => True) := by
  unfold maxLen at hn hm
  by_cases h1 : n ≤ 1048576
  · by_cases h2 : m ≤ 1048576
    · by_cases h3 : n + m ≤ 1048576
      · go_enter Try.func5, Try.ntmps5
        go_wp2
        go_ret
        exact Ans.mk (r := true) rfl rfl trivial
      · go_enter Try.func5, Try.ntmps5
        go_wp2
        go_ret
        exact Ans.mk (r := false) rfl rfl trivial
    · go_enter Try.func5, Try.ntmps5
      go_wp2
      go_ret
      exact Ans.mk (r := false) rfl rfl trivial
  · go_enter Try.func5, Try.ntmps5
    go_wp2
    go_ret
    exact Ans.mk (r := false) rfl rfl trivial

set_option maxHeartbeats 800000 in
theorem bytes10 (a b : Option Addr) (n m c d : Nat) (k : Int) (w : World) (hn : n ≤ maxLen) (hm : m ≤ maxLen) :
    Calls Try.prog 10 #[.slice a n c, .slice b m d, .int .i64 k] w fun e w' => Ans e w w' (fun _ => True) := by
  unfold maxLen at hn hm
  by_cases h1 : n ≤ 1048576
  · by_cases h2 : m ≤ 1048576
    · by_cases h3 : n + m ≤ 1048576
      · go_enter Try.func10, Try.ntmps10
        go_wp2
        go_ret
        exact Ans.mk (r := true) rfl rfl trivial
      · go_enter Try.func10, Try.ntmps10
        go_wp2
        go_ret
        exact Ans.mk (r := false) rfl rfl trivial
    · go_enter Try.func10, Try.ntmps10
      go_wp2
      go_ret
      exact Ans.mk (r := false) rfl rfl trivial
  · go_enter Try.func10, Try.ntmps10
    go_wp2
    go_ret
    exact Ans.mk (r := false) rfl rfl trivial

theorem ord_any (x : Int) (w : World) : Calls Try.prog 9 #[.agg #[.int .i32 x]] w fun e w' => e = .returned (.int .i32 x) ∧ Below w.heap.size w w' := by
  go_enter Try.func9, Try.ntmps9
  go_wp2
  go_ret
  exact ⟨rfl, (Below.refl _ _).alloc (Nat.le_refl _) _⟩

theorem from_any (x : Int) (w : World) : Calls Try.prog 13 #[.int .i32 x] w fun e w' => e = .returned (.agg #[.int .i32 x]) ∧ Below w.heap.size w w' := by
  go_enter Try.func13, Try.ntmps13
  go_wp2
  exact bodyPost_ret (v := .agg #[.int .i32 x]) (by simp [results, Try.results13, go_sem]) rfl ⟨rfl, (Below.refl _ _).alloc (Nat.le_refl _) _⟩

/-- A row of the call's own, of whose cells nothing is told. -/
def Row (wr : World) (base e size g n : Nat) : Prop := ∃ xs, wr.ownsRow base e size (.slice (some ⟨g, 0, none⟩) n n) n xs
theorem Row.cell {wr : World} {base e size g n : Nat} (h : Row wr base e size g n) (j : Nat) (hj : j < n * size) : ∃ v, wr.cell? ⟨g, j, none⟩ = some v := by
  obtain ⟨xs, h⟩ := h
  rw [h.cellAt j hj]
  exact ⟨_, List.getElem?_eq_getElem (by rw [h.1]; exact hj)⟩
theorem Row.frozen {wr : World} {base e size g n : Nat} (h : Row wr base e size g n) (j : Nat) : wr.frozen? ⟨g, j, none⟩ = false := by
  obtain ⟨xs, h⟩ := h
  exact h.frozenAt j
theorem Row.set {wr : World} {base e size g n : Nat} (h : Row wr base e size g n) (j : Nat) (u : Value) : Row (wr.setCell ⟨g, j, none⟩ u) base e size g n := by
  obtain ⟨xs, h⟩ := h
  exact ⟨_, (h.stored j u).1⟩
theorem Row.drew {wr : World} {base e size g n : Nat} (h : Row wr base e size g n) : Row wr.drew base e size g n := h
theorem Row.alloc {wr : World} {base e size g n : Nat} (h : Row wr base e size g n) (o : Obj) : Row (wr.alloc o) base e size g n := by
  obtain ⟨xs, h⟩ := h
  exact ⟨_, h.alloc o⟩
theorem Row.lt {wr : World} {base e size g n : Nat} (h : Row wr base e size g n) : base ≤ g ∧ g < wr.heap.size := by
  obtain ⟨xs, h⟩ := h
  exact h.lt g rfl
theorem Row.keep {w w' : World} {base e size g n : Nat} (h : Row w base e size g n) (hb : Below w.heap.size w w') : Row w' base e size g n := by
  have hl := h.lt
  obtain ⟨xs, h⟩ := h
  refine ⟨xs, h.1, ?_⟩
  rcases h.2 with h2 | ⟨g', cap, cur, e1, e2, e3, r⟩
  · exact .inl h2
  · have : g' = g := by simp at e1; omega
    subst this
    exact .inr ⟨g', cap, cur, e1, e2, (hb.block _ hl.2).trans e3, r⟩

theorem Try.info43 : (Try.prog.info? 43).map (fun i => (i.zero, i.size, i.bytes)) = some (some (.agg #[.int .i32 0, .int .i64 0]), 2, 16) := by kernel_rfl
theorem Try.info34 : (Try.prog.info? 34).map (fun i => (i.zero, i.size, i.bytes)) = some (some (.agg #[.int .i32 0, .int .i64 0]), 2, 16) := by kernel_rfl

set_option maxHeartbeats 400000 in
theorem new_any (n : Nat) (w : World) (hn : n ≤ 1048576) :
    Calls Try.prog 11 #[.int .i64 n] w fun e w' => e = .returned (.pointer (some ⟨w'.heap.size - 1, 0, none⟩)) ∧ w.heap.size + 2 ≤ w'.heap.size ∧ w'.cell? ⟨w'.heap.size - 1, 0, none⟩ = some (.slice (some ⟨w.heap.size, 0, none⟩) n n) ∧ Row w' w.heap.size 43 2 w.heap.size n ∧ Below w.heap.size w w' := by
  obtain ⟨i0, hi, hz0, hz1, hz2⟩ := info_parts Try.info43
  go_enter Try.func11, Try.ntmps11
  go_wp2_with (at_make; refine wpList_make_full _ rfl _ _ 39 rfl w.heap.size 43 i0 (.agg #[.int .i32 0, .int .i64 0]) 2 Try.underlying39 hi hz0 hz1 _ _ _ _ n rfl rfl rfl rfl (by rw [hz2]; omega) (by unfold maxLen; omega) (Nat.le_refl _) ?_; intro w1 hown1 hg1)
  have hrow : Row w1 w.heap.size 43 2 w.heap.size n := ⟨_, hown1⟩
  have hb1 : Below w.heap.size w w1 := (Below.refl _ _).grown hg1 (Nat.le_refl _) (by simp)
  have hl := hrow.lt
  go_ret
  exact ⟨by simp, by simp; omega, by simp, hrow.alloc _, hb1.alloc hb1.size _⟩

/-- BEHIND ONE STEP: the two cells of step i are written; nothing else of what was there has turned. -/
structure Stepped (w w' : World) (base h m i : Nat) (x v : Int) : Prop where
  at0 : w'.cell? ⟨h, i * 2, none⟩ = some (.int .i32 x)
  at1 : w'.cell? ⟨h, i * 2 + 1, none⟩ = some (.int .i64 v)
  other : ∀ a u, w.cell? a = some u → a ≠ ⟨h, i * 2, none⟩ → a ≠ ⟨h, i * 2 + 1, none⟩ → w'.cell? a = some u
  row : Row w' base 43 2 h m
  below : ∀ B W, Below B W w → B ≤ base → B ≤ W.heap.size → Below B W w'
  size : w.heap.size ≤ w'.heap.size

theorem stepped_of {w W : World} {base h m i : Nat} {x v : Int} {u0 u1 : Value} (hB : Below w.heap.size w W) (hR : Row W base 43 2 h m) (e0 : W.cell? ⟨h, i * 2, none⟩ = some u0) (e1 : W.cell? ⟨h, i * 2 + 1, none⟩ = some u1) (hb : base ≤ h) :
    Stepped w (((W.setCell ⟨h, i * 2, none⟩ (.int .i32 x)).setCell ⟨h, i * 2 + 1, none⟩ (.int .i64 v)).drew) base h m i x v := by
  have hne : (⟨h, i * 2 + 1, none⟩ : Addr) ≠ ⟨h, i * 2, none⟩ := by simp
  refine ⟨?_, ?_, ?_, ((hR.set _ _).set _ _).drew, ?_, ?_⟩
  · show ((W.setCell ⟨h, i * 2, none⟩ (.int .i32 x)).setCell ⟨h, i * 2 + 1, none⟩ (.int .i64 v)).cell? ⟨h, i * 2, none⟩ = _
    rw [World.cell?_setCell_other (h := hne), World.cell?_setCell_same (h := e0)]
  · show ((W.setCell ⟨h, i * 2, none⟩ (.int .i32 x)).setCell ⟨h, i * 2 + 1, none⟩ (.int .i64 v)).cell? ⟨h, i * 2 + 1, none⟩ = _
    refine World.cell?_setCell_same (u := u1) _ _ _ ?_
    rw [World.cell?_setCell_other (h := hne.symm)]
    exact e1
  · intro a u ha h1 h2
    show ((W.setCell ⟨h, i * 2, none⟩ (.int .i32 x)).setCell ⟨h, i * 2 + 1, none⟩ (.int .i64 v)).cell? a = _
    rw [World.cell?_setCell_other (h := fun e => h2 e.symm), World.cell?_setCell_other (h := fun e => h1 e.symm)]
    exact kept_cell hB ha
  · intro B X hX hBb hBs
    exact (((chainB hX hB hBs).setCell (p := ⟨h, i * 2, none⟩) (Nat.le_trans hBb hb) _).setCell (p := ⟨h, i * 2 + 1, none⟩) (Nat.le_trans hBb hb) _).drew
  · have := hB.size
    simpa using this

set_option maxHeartbeats 800000 in
theorem set_any (p h m i base : Nat) (x v : Int) (w : World) (hp : w.cell? ⟨p, 0, none⟩ = some (.slice (some ⟨h, 0, none⟩) m m)) (hR : Row w base 43 2 h m) (hi : i < m) (hph : p ≠ h) :
    Calls Try.prog 12 #[.pointer (some ⟨p, 0, none⟩), .int .i64 i, .agg #[.int .i32 x], .int .i64 v] w fun e w' => e = .returned (.tuple #[]) ∧ Stepped w w' base h m i x v := by
  have hlt := hR.lt
  obtain ⟨u0, e0⟩ := hR.cell (i * 2) (by omega)
  obtain ⟨u1, e1⟩ := hR.cell (i * 2 + 1) (by omega)
  have f0 := hR.frozen (i * 2)
  have f1 := hR.frozen (i * 2 + 1)
  have hpl : p < w.heap.size := World.block_lt_of_cell? w _ hp
  have n1 : w.heap.size ≠ h := by omega
  have n2 : w.heap.size ≠ p := by omega
  have n3 : h ≠ w.heap.size := by omega
  have n4 : h ≠ p := by omega
  have hi1 : (0 : Int) ≤ (i : Int) := by omega
  have hi2 : (i : Int) < (m : Int) := by omega
  go_enter Try.func12, Try.ntmps12
  go_wp2_with fail
  obtain ⟨W, hW⟩ : ∃ W, W = w.alloc (Obj.cells #[Value.int .i32 x] 32) := ⟨_, rfl⟩
  rw [← hW]
  have k0 : W.cell? ⟨w.heap.size, 0, none⟩ = some (.int .i32 x) := by rw [hW]; simp
  have hBW : Below w.heap.size w W := by rw [hW]; exact (Below.refl _ _).alloc (Nat.le_refl _) _
  have hRW := hR.keep hBW
  have HBW : Hid (Below w.heap.size w W) := hBW
  have HRW : Hid (Row W base 43 2 h m) := hRW
  replace hp := kept_cell hBW hp
  replace e0 := kept_cell hBW e0
  replace e1 := kept_cell hBW e1
  replace f0 := hRW.frozen (i * 2)
  replace f1 := hRW.frozen (i * 2 + 1)
  clear hW hBW hRW
  go_region_held3 (fun w' => w'.cell? ⟨p, 0, none⟩ = some (.slice (some ⟨h, 0, none⟩) m m) ∧ w'.cell? ⟨w.heap.size, 0, none⟩ = some (.int .i32 x)) (go_keep) (fail)
  go_wp2
  go_end0
  exact ⟨rfl, stepped_of HBW.out HRW.out e0 e1 hlt.1⟩

theorem set_at (p h m i base : Nat) (ii x v : Int) (w : World) (hii : ii = (i : Int)) (hp : w.cell? ⟨p, 0, none⟩ = some (.slice (some ⟨h, 0, none⟩) m m)) (hR : Row w base 43 2 h m) (hi : i < m) (hph : p ≠ h) :
    Calls Try.prog 12 #[.pointer (some ⟨p, 0, none⟩), .int .i64 ii, .agg #[.int .i32 x], .int .i64 v] w fun e w' => e = .returned (.tuple #[]) ∧ Stepped w w' base h m i x v := by
  subst hii
  exact set_any p h m i base x v w hp hR hi hph
theorem new_at (n : Nat) (m : Int) (w : World) (hm : m = (n : Int)) (hn : n ≤ 1048576) :
    Calls Try.prog 11 #[.int .i64 m] w fun e w' => e = .returned (.pointer (some ⟨w'.heap.size - 1, 0, none⟩)) ∧ w.heap.size + 2 ≤ w'.heap.size ∧ w'.cell? ⟨w'.heap.size - 1, 0, none⟩ = some (.slice (some ⟨w.heap.size, 0, none⟩) n n) ∧ Row w' w.heap.size 43 2 w.heap.size n ∧ Below w.heap.size w w' := by
  subst hm
  exact new_any n w hn

/-- The steps that a schedule holds. -/
def WF (n : Nat) (O V : Nat → Int) : Prop := (∀ i, i < n → 1 ≤ O i ∧ O i ≤ 3652059 ∧ 1 ≤ V i) ∧ ∀ i, i + 1 < n → O i < O (i + 1) ∧ V i < V (i + 1)

theorem WF.zero (O V : Nat → Int) : WF 0 O V := ⟨fun i hi => absurd hi (Nat.not_lt_zero _), fun i hi => by omega⟩
theorem WF.step {k : Nat} {O V : Nat → Int} {po pv : Int} (h : WF k O V) (hp : 0 < k → po = O (k - 1) ∧ pv = V (k - 1)) (h1 : ¬ O k < 1) (h2 : ¬ 3652059 < O k) (h3 : ¬ V k < 1) (h4 : 0 < k → ¬ O k ≤ po) (h5 : 0 < k → ¬ V k ≤ pv) : WF (k + 1) O V := by
  refine ⟨fun i hi => ?_, fun i hi => ?_⟩
  · by_cases e : i = k
    · subst e; omega
    · exact h.1 i (by omega)
  · by_cases e : i + 1 = k
    · subst e
      have a1 := hp (by omega)
      have a2 := h4 (by omega)
      have a3 := h5 (by omega)
      simp at a1
      omega
    · exact h.2 i (by omega)

set_option maxHeartbeats 1000000 in
theorem well_any (ao av : Option Addr) (n c d : Nat) (O V : Nat → Int) (w : World) (hO : IntSl .i32 w ao n O) (hV : IntSl .i64 w av n V) :
    Calls Try.prog 6 #[.slice ao n c, .slice av n d] w fun e w' => Ans e w w' (fun r => r = true → WF n O V) := by
  have hn := hO.le
  unfold maxLen at hn
  have HO : Hid (IntSl .i32 w ao n O) := hO
  have HV : Hid (IntSl .i64 w av n V) := hV
  clear hO hV
  go_enter Try.func6, Try.ntmps6
  go_wp2
  go_loop [5, 6, 7] (fun a b i => ∃ (k : Nat) (po pv : Int), k ≤ n ∧ a = .int .i32 po ∧ b = .int .i64 pv ∧ i = .int .i64 k ∧ Hid (WF k O V ∧ (0 < k → po = O (k - 1) ∧ pv = V (k - 1)))) (fun _ _ i => n - (intOf i).toNat)
  case atStart => exact ⟨0, 0, 0, Nat.zero_le _, rfl, rfl, rfl, WF.zero O V, fun h => absurd h (Nat.lt_irrefl _)⟩
  case round =>
    obtain ⟨k, po, pv, hk, rfl, rfl, rfl, Hw⟩ := hrel
    by_cases hlt : k < n
    · obtain ⟨b, o, hx, c0⟩ := HO.out.cell k hlt
      obtain ⟨b2, o2, hx2, c1⟩ := HV.out.cell k hlt
      subst hx
      subst hx2
      by_cases h1 : O k < 1
      · go_wp2
        go_ret
        exact Ans.mk (r := false) rfl rfl (fun h => by cases h)
      by_cases h2 : 3652059 < O k
      · go_wp2
        go_ret
        exact Ans.mk (r := false) rfl rfl (fun h => by cases h)
      by_cases h3 : V k < 1
      · by_cases h0 : (0 : Int) < k
        · by_cases h4 : O k ≤ po
          · go_wp2
            go_ret
            exact Ans.mk (r := false) rfl rfl (fun h => by cases h)
          · go_wp2
            go_ret
            exact Ans.mk (r := false) rfl rfl (fun h => by cases h)
        · go_wp2
          go_ret
          exact Ans.mk (r := false) rfl rfl (fun h => by cases h)
      by_cases h0 : (0 : Int) < k
      · by_cases h4 : O k ≤ po
        · go_wp2
          go_ret
          exact Ans.mk (r := false) rfl rfl (fun h => by cases h)
        by_cases h5 : V k ≤ pv
        · go_wp2
          go_ret
          exact Ans.mk (r := false) rfl rfl (fun h => by cases h)
        have Hw2 : Hid (WF (k + 1) O V ∧ (0 < k + 1 → O k = O (k + 1 - 1) ∧ V k = V (k + 1 - 1))) := ⟨Hw.out.1.step Hw.out.2 h1 h2 h3 (fun _ => h4) (fun _ => h5), fun _ => ⟨rfl, rfl⟩⟩
        go_wp2
        go_round
        case rel => exact ⟨k + 1, O k, V k, by omega, rfl, rfl, by go_num, Hw2⟩
        case measure => simp [intOf]; omega
      · have Hw2 : Hid (WF (k + 1) O V ∧ (0 < k + 1 → O k = O (k + 1 - 1) ∧ V k = V (k + 1 - 1))) := ⟨Hw.out.1.step Hw.out.2 h1 h2 h3 (fun h => by omega) (fun h => by omega), fun _ => ⟨rfl, rfl⟩⟩
        go_wp2
        go_round
        case rel => exact ⟨k + 1, O k, V k, by omega, rfl, rfl, by go_num, Hw2⟩
        case measure => simp [intOf]; omega
    · obtain rfl : k = n := by omega
      go_wp2
      go_ret
      exact Ans.mk (r := true) rfl rfl (fun _ => Hw.out.1)

end Go.Proofs.Qxb6627983a
