/-
  WALKS for seat b6627953a: zzAdd (10), zzStrings (12), zzQuorums (13), zzFloors (14).
-/
import Derived.Test.Qxb6627953aRows
import Derived.Test.Qxb6627953aShape
import Derived.WalkKit
import Derived.WalkSpells
import Derived.WalkLawsBesides
import Derived.Deep.RegionHeld3
namespace Go.Proofs.Qxb6627953a
open Go.RowKit

theorem add_yes (n k : Int) (w : World) (h0 : 0 ≤ n) (h1 : 0 ≤ k) (h : n + k ≤ 1048576) :
    Calls Try.prog 10 #[.int .i64 n, .int .i64 k] w fun e w' => e = .returned (.tuple #[.int .i64 (n + k), .bool true]) ∧ w' = w := by
  go_enter Try.func10, Try.ntmps10
  go_wp2
  go_ret2
  exact ⟨rfl, rfl⟩

theorem add_no (n k : Int) (w : World) (h0 : 0 ≤ n) (h1 : 0 ≤ k) (h2 : n ≤ 1048576) (h : ¬ n + k ≤ 1048576) :
    Calls Try.prog 10 #[.int .i64 n, .int .i64 k] w fun e w' => (∃ m, e = .returned (.tuple #[.int .i64 m, .bool false])) ∧ w' = w := by
  by_cases hk : k ≤ 1048576
  · go_enter Try.func10, Try.ntmps10
    go_wp2
    go_ret2
    exact ⟨⟨_, rfl⟩, rfl⟩
  · go_enter Try.func10, Try.ntmps10
    go_wp2
    go_ret2
    exact ⟨⟨_, rfl⟩, rfl⟩

theorem Try.eq23 (w : World) (a : Option Addr) (n c n' c' : Nat) : (binOp .eql 23 (.slice a n c) (.slice none n' c')).run Try.prog w = .ok (.bool a.isNone) w := Lib.run_eql_slice_nil w _ _ a n c n' c' Try.underlying23
theorem Try.eq25 (w : World) (a : Option Addr) (n c n' c' : Nat) : (binOp .eql 25 (.slice a n c) (.slice none n' c')).run Try.prog w = .ok (.bool a.isNone) w := Lib.run_eql_slice_nil w _ _ a n c n' c' Try.underlying25
theorem Try.info9 : (Try.prog.info? 9).map (fun i => (i.zero, i.size, i.bytes)) = some (some (.string ByteArray.empty), 1, 16) := by kernel_rfl
theorem Try.info59 : (Try.prog.info? 59).map (fun i => (i.zero, i.size, i.bytes)) = some (some (.agg #[.int .u64 0, .int .i64 0, .bool false]), 3, 24) := by kernel_rfl

theorem quo_nil (w : World) : Calls Try.prog 13 #[.pointer none] w fun e w' => e = .returned (.pointer none) ∧ w' = w := by
  go_enter Try.func13, Try.ntmps13
  go_wp2
  go_ret
  exact ⟨rfl, rfl⟩

set_option maxHeartbeats 400000 in
theorem quo_some (b o : Nat) (r q : Int) (w : World) (h0 : w.cell? ⟨b, o, none⟩ = some (.int .i64 r)) (h1 : w.cell? ⟨b, o + 1, none⟩ = some (.int .i64 q)) :
    Calls Try.prog 13 #[.pointer (some ⟨b, o, none⟩)] w fun e w' => e = .returned (.pointer (some ⟨w.heap.size, 0, none⟩)) ∧ Below w.heap.size w w' := by
  go_enter Try.func13, Try.ntmps13
  go_wp2
  go_region
  all_goals (go_wp2; go_ret; exact ⟨rfl, (((Below.refl _ _).drew).alloc (Nat.le_refl _) _)⟩)


theorem quo_any (p : Option Addr) (w : World) (h : Quo w p) :
    Calls Try.prog 13 #[.pointer p] w fun e w' => (∃ p', e = .returned (.pointer p') ∧ p'.isSome = p.isSome) ∧ Below w.heap.size w w' := by
  cases p with
  | none =>
    refine (quo_nil w).mono ?_
    rintro e w' ⟨rfl, hw⟩
    subst w'
    exact ⟨⟨_, rfl, rfl⟩, Below.refl _ _⟩
  | some x =>
    obtain ⟨b, o, r, q, rfl, h0, h1⟩ := h x rfl
    refine (quo_some b o r q w h0 h1).mono ?_
    rintro e w' ⟨rfl, hw⟩
    exact ⟨⟨_, rfl, rfl⟩, hw⟩

/-- A row of the call's own, of whose cells nothing is told. -/
def Row (wr : World) (base e size g n : Nat) : Prop := ∃ xs, wr.ownsRow base e size (.slice (some ⟨g, 0, none⟩) n n) n xs

theorem Row.cell {wr : World} {base e size g n : Nat} (h : Row wr base e size g n) (j : Nat) (hj : j < n * size) : ∃ v, wr.cell? ⟨g, j, none⟩ = some v := by
  obtain ⟨xs, h⟩ := h
  rw [h.cellAt j hj]
  exact ⟨_, List.getElem?_eq_getElem (by rw [h.1]; exact hj)⟩
theorem Row.frozen {wr : World} {base e size g n : Nat} (h : Row wr base e size g n) (j : Nat) : wr.frozen? ⟨g, j, none⟩ = false := by
  obtain ⟨xs, h⟩ := h
  exact h.frozenAt j
theorem Row.set {wr : World} {base e size g n : Nat} (h : Row wr base e size g n) (j : Nat) (u : Value) : Row (wr.setCell ⟨g, j, none⟩ u) base e size g n := by
  obtain ⟨xs, h⟩ := h
  exact ⟨_, (h.stored j u).1⟩
theorem Row.drew {wr : World} {base e size g n : Nat} (h : Row wr base e size g n) : Row wr.drew base e size g n := h

theorem strs_nil (w : World) : Calls Try.prog 12 #[.slice none 0 0] w fun e w' => e = .returned (.slice none 0 0) ∧ w' = w := by
  have hs1 := Try.eq23
  go_enter Try.func12, Try.ntmps12
  go_wp2
  go_ret
  exact ⟨rfl, rfl⟩

set_option maxHeartbeats 400000 in
theorem strs_some (x : Addr) (n c : Nat) (S : Nat → ByteArray) (w : World) (h : StrSl w (some x) n c S) (hn : n ≤ 1048576) :
    Calls Try.prog 12 #[.slice (some x) n c] w fun e w' => (∃ a, e = .returned (.slice (some a) n n)) ∧ Below w.heap.size w w' := by
  obtain ⟨i0, hi, hz0, hz1, hz2⟩ := info_parts Try.info9
  have hs1 := Try.eq23
  go_enter Try.func12, Try.ntmps12
  go_wp2_with (at_make; refine wpList_make_full _ rfl _ _ 23 rfl w.heap.size 9 i0 (.string ByteArray.empty) 1 Try.underlying23 hi hz0 hz1 _ _ _ _ n rfl rfl rfl rfl (by rw [hz2]; omega) (by unfold maxLen; omega) (Nat.le_refl _) ?_; intro w1 hown1 hg1)
  have hrow : Row w1 w.heap.size 9 1 w.heap.size n := ⟨_, hown1⟩
  have hb1 : Below w.heap.size w w1 := (Below.refl _ _).grown hg1 (Nat.le_refl _) (by simp)
  clear hown1 hg1
  go_loopw [4] (fun i wr => ∃ k : Nat, k ≤ n ∧ i = .int .i64 k ∧ Row wr w.heap.size 9 1 w.heap.size n ∧ Below w.heap.size w wr) (fun i _ => n - (intOf i).toNat)
  case atStart => exact ⟨0, Nat.zero_le _, rfl, hrow, hb1⟩
  case round =>
    obtain ⟨k, hk, rfl, hR, hB⟩ := hrel
    clear hrow hb1
    by_cases hlt : k < n
    · obtain ⟨b, o, hx, hc, _⟩ := (h.keep hB).cell k hlt
      obtain rfl : x = ⟨b, o, none⟩ := by simpa using hx
      obtain ⟨u, hu⟩ := hR.cell k (by omega)
      have hf := hR.frozen k
      have hR2 := hR.set k (.string (S k))
      have hB2 := hB.setCell (p := ⟨w.heap.size, k, none⟩) (Nat.le_refl _) (.string (S k))
      clear hx hR hB
      go_wp2
      go_roundw
      case rel => exact ⟨k + 1, by omega, by go_num, hR2, hB2⟩
      case measure => simp [intOf]; omega
    · go_wp2
      go_ret
      exact ⟨⟨_, rfl⟩, hB⟩

theorem strs_any (ao : Option Addr) (n c : Nat) (S : Nat → ByteArray) (w : World) (h : StrSl w ao n c S) (hn : n ≤ 1048576) :
    Calls Try.prog 12 #[.slice ao n c] w fun e w' => (∃ a' c', e = .returned (.slice a' n c') ∧ a'.isSome = ao.isSome) ∧ Below w.heap.size w w' := by
  cases ao with
  | none =>
    obtain ⟨rfl, rfl⟩ := h.nil rfl
    refine (strs_nil w).mono ?_
    rintro e w' ⟨rfl, hw⟩
    subst w'
    exact ⟨⟨_, _, rfl, rfl⟩, Below.refl _ _⟩
  | some x =>
    refine (strs_some x n c S w h hn).mono ?_
    rintro e w' ⟨⟨a, rfl⟩, hw⟩
    exact ⟨⟨_, _, rfl, rfl⟩, hw⟩

theorem flo_nil (w : World) : Calls Try.prog 14 #[.slice none 0 0] w fun e w' => e = .returned (.slice none 0 0) ∧ w' = w := by
  have hs1 := Try.eq25
  go_enter Try.func14, Try.ntmps14
  go_wp2
  go_ret
  exact ⟨rfl, rfl⟩

set_option maxHeartbeats 800000 in
theorem flo_some (x : Addr) (n c : Nat) (w : World) (h : FlSl w (some x) n c) (hn : n ≤ 1048576) :
    Calls Try.prog 14 #[.slice (some x) n c] w fun e w' => (∃ a, e = .returned (.slice (some a) n n)) ∧ Below w.heap.size w w' := by
  obtain ⟨i0, hi, hz0, hz1, hz2⟩ := info_parts Try.info59
  have hs1 := Try.eq25
  go_enter Try.func14, Try.ntmps14
  go_wp2_with (at_make; refine wpList_make_full _ rfl _ _ 32 rfl w.heap.size 59 i0 (.agg #[.int .u64 0, .int .i64 0, .bool false]) 3 Try.underlying32 hi hz0 hz1 _ _ _ _ n rfl rfl rfl rfl (by rw [hz2]; omega) (by unfold maxLen; omega) (Nat.le_refl _) ?_; intro w1 hown1 hg1)
  have hrow : Row w1 w.heap.size 59 3 w.heap.size n := ⟨_, hown1⟩
  have hb1 : Below w.heap.size w w1 := (Below.refl _ _).grown hg1 (Nat.le_refl _) (by simp)
  clear hown1 hg1
  go_loopw [4] (fun i wr => ∃ k : Nat, k ≤ n ∧ i = .int .i64 k ∧ Row wr w.heap.size 59 3 w.heap.size n ∧ Below w.heap.size w wr) (fun i _ => n - (intOf i).toNat)
  case atStart => exact ⟨0, Nat.zero_le _, rfl, hrow, hb1⟩
  case round =>
    obtain ⟨k, hk, rfl, hR, hB⟩ := hrel
    clear hrow hb1
    by_cases hlt : k < n
    · obtain ⟨b, o, xx, yy, hh, hx, c0, c1, c2⟩ := h.cell k hlt
      have hbl := World.block_lt_of_cell? w _ c0
      replace hbl : b < w.heap.size := hbl
      have hne1 : b ≠ w.heap.size := by omega
      have hne2 : w.heap.size ≠ b := by omega
      replace c0 := kept_cell hB c0
      replace c1 := kept_cell hB c1
      replace c2 := kept_cell hB c2
      obtain rfl : x = ⟨b, o, none⟩ := by simpa using hx
      obtain ⟨u0, hu0⟩ := hR.cell (k * 3) (by omega)
      obtain ⟨u1, hu1⟩ := hR.cell (k * 3 + 1) (by omega)
      obtain ⟨u2, hu2⟩ := hR.cell (k * 3 + 2) (by omega)
      have hf0 := hR.frozen (k * 3)
      have hf1 := hR.frozen (k * 3 + 1)
      have hf2 := hR.frozen (k * 3 + 2)
      have hki : (0 : Int) ≤ (k : Int) := by omega
      have hkn : (k : Int) < (n : Int) := by omega
      clear hx hlt
      go_wp2_with fail
      go_region_held3 (fun w' => w'.cell? ⟨b, o + k * 3, none⟩ = some (.int .u64 xx) ∧ w'.cell? ⟨b, o + k * 3 + 1, none⟩ = some (.int .i64 yy) ∧ w'.cell? ⟨b, o + k * 3 + 2, none⟩ = some (.bool hh)) (go_keep) (fail)
      go_wp2
      go_roundw
      case rel => exact ⟨k + 1, by omega, by go_num, (((hR.set _ _).set _ _).set _ _).drew, (((hB.setCell (Nat.le_refl _) _).setCell (Nat.le_refl _) _).setCell (Nat.le_refl _) _).drew⟩
      case measure => simp [intOf]; omega
    · go_wp2
      go_ret
      exact ⟨⟨_, rfl⟩, hB⟩

theorem flo_any (ao : Option Addr) (n c : Nat) (w : World) (h : FlSl w ao n c) (hn : n ≤ 1048576) :
    Calls Try.prog 14 #[.slice ao n c] w fun e w' => (∃ a' c', e = .returned (.slice a' n c')) ∧ Below w.heap.size w w' := by
  cases ao with
  | none =>
    obtain ⟨rfl, rfl⟩ := h.nil rfl
    refine (flo_nil w).mono ?_
    rintro e w' ⟨rfl, hw⟩
    subst w'
    exact ⟨⟨_, _, rfl⟩, Below.refl _ _⟩
  | some x =>
    refine (flo_some x n c w h hn).mono ?_
    rintro e w' ⟨⟨a, rfl⟩, hw⟩
    exact ⟨⟨_, _, rfl⟩, hw⟩

end Go.Proofs.Qxb6627953a
