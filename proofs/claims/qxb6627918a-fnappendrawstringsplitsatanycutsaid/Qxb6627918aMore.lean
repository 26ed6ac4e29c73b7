/-
  WALKS for seat b6627918a: zzBytes (5), zzCloneBytes (6), zzRawReadsAs (8), zzBytes of the second law (9), zzCountSpecials (10).
-/
import Derived.Test.Qxb6627918aRaw
import Derived.WalkLawsBesides
namespace Go.Proofs.Qxb6627918a
open Go.RowKit

/-- The first law's bound. -/
def fits2 (n m : Nat) : Bool := decide (n + m ≤ 1048576)

set_option maxHeartbeats 400000 in
theorem bytes2 (a : Option Addr) (n c : Nat) (s : ByteArray) (w : World) (hn : n ≤ maxLen) (hs : s.size ≤ maxLen) :
    Calls Try.prog 5 #[.slice a n c, .string s] w fun e w' => e = .returned (.bool (fits2 n s.size)) ∧ w' = w := by
  unfold maxLen at hn hs
  by_cases h1 : n ≤ 1048576
  · by_cases h2 : s.size ≤ 1048576
    · by_cases h3 : n + s.size ≤ 1048576
      · have e1 : fits2 n s.size = true := by simp [fits2, h3]
        rw [e1]
        go_enter Try.func5, Try.ntmps5
        go_wp2
        go_ret
        exact ⟨rfl, rfl⟩
      · have e1 : fits2 n s.size = false := by simp [fits2, h3]
        rw [e1]
        go_enter Try.func5, Try.ntmps5
        go_wp2
        go_ret
        exact ⟨rfl, rfl⟩
    · have e1 : fits2 n s.size = false := by simp [fits2]; omega
      rw [e1]
      go_enter Try.func5, Try.ntmps5
      go_wp2
      go_ret
      exact ⟨rfl, rfl⟩
  · have e1 : fits2 n s.size = false := by simp [fits2]; omega
    rw [e1]
    go_enter Try.func5, Try.ntmps5
    go_wp2
    go_ret
    exact ⟨rfl, rfl⟩


set_option maxHeartbeats 400000 in
theorem bytes3_yes (a : Option Addr) (n c : Nat) (s t : ByteArray) (w : World) (h : n + s.size + t.size ≤ 1048576) :
    Calls Try.prog 9 #[.slice a n c, .string s, .string t] w fun e w' => e = .returned (.bool true) ∧ w' = w := by
  go_enter Try.func9, Try.ntmps9
  go_wp2
  go_ret
  exact ⟨rfl, rfl⟩

set_option maxHeartbeats 800000 in
theorem bytes3_no (a : Option Addr) (n c : Nat) (s t : ByteArray) (w : World) (hn : n ≤ maxLen) (hs : s.size ≤ maxLen) (ht : t.size ≤ maxLen) (h : ¬ n + s.size + t.size ≤ 1048576) :
    Calls Try.prog 9 #[.slice a n c, .string s, .string t] w fun e w' => e = .returned (.bool false) ∧ w' = w := by
  unfold maxLen at hn hs ht
  by_cases h1 : n ≤ 1048576
  · by_cases h2 : s.size ≤ 1048576
    · by_cases h3 : n + s.size ≤ 1048576
      · by_cases h4 : t.size ≤ 1048576
        · go_enter Try.func9, Try.ntmps9
          go_wp2
          go_ret
          exact ⟨rfl, rfl⟩
        · go_enter Try.func9, Try.ntmps9
          go_wp2
          go_ret
          exact ⟨rfl, rfl⟩
      · go_enter Try.func9, Try.ntmps9
        go_wp2
        go_ret
        exact ⟨rfl, rfl⟩
    · go_enter Try.func9, Try.ntmps9
      go_wp2
      go_ret
      exact ⟨rfl, rfl⟩
  · go_enter Try.func9, Try.ntmps9
    go_wp2
    go_ret
    exact ⟨rfl, rfl⟩

theorem specials_snoc (l : List Int) (c : Int) : specials (l ++ [c]) = specials l + if special c then 1 else 0 := by
  unfold specials
  rw [List.filter_append]
  by_cases h : special c = true <;> simp [h]
theorem specials_le (l : List Int) : specials l ≤ l.length := by
  unfold specials; exact List.length_filter_le _ _
theorem ret_int {k : IntKind} {a b : Int} (h : a = b) : Ending.returned (.int k a) = .returned (.int k b) := by rw [h]

set_option maxHeartbeats 400000 in
theorem count_any (s : ByteArray) (w : World) (hs : s.size ≤ 1048576) :
    Calls Try.prog 10 #[.string s] w fun e w' => e = .returned (.int .i64 (specials (S s))) ∧ w' = w := by
  go_enter Try.func10, Try.ntmps10
  go_wp2
  go_loop [3, 4] (fun n i => ∃ k : Nat, k ≤ s.size ∧ i = .int .i64 k ∧ n = .int .i64 (specials ((S s).take k))) (fun _ i => s.size - (intOf i).toNat)
  case atStart => exact ⟨0, Nat.zero_le _, rfl, rfl⟩
  case round =>
    obtain ⟨k, hk, rfl, rfl⟩ := hrel
    have hd := specials_le ((S s).take k)
    have hl : ((S s).take k).length ≤ k := List.length_take_le _ _
    by_cases hlt : k < s.size
    · have HS : Hid (specials ((S s).take (k + 1)) = specials ((S s).take k) + if special (s[k].toNat : Int) then 1 else 0) := by rw [take_snoc s k hlt]; exact specials_snoc _ _
      cases hsp : special ((s[k]).toNat : Int)
      · have hq1 : ((s[k].toNat : Int) == 34) = false := by simp [special] at hsp; simpa using hsp.1
        have hq2 : ((s[k].toNat : Int) == 92) = false := by simp [special] at hsp; simpa using hsp.2
        have HP : Hid (special (s[k].toNat : Int) = false) := hsp
        clear hsp
        go_wp2
        go_round
        case rel => exact ⟨k + 1, by omega, by go_num, by rw [HS.out, HP.out]; rfl⟩
        case measure => simp [intOf]; omega
      · have hq2 : ((s[k].toNat : Int) == 34) = false → ((s[k].toNat : Int) == 92) = true := by simp [special] at hsp; simp; omega
        have HP : Hid (special (s[k].toNat : Int) = true) := hsp
        clear hsp
        cases hq1 : ((s[k].toNat : Int) == 34)
        all_goals
          try simp only [hq1, true_implies] at hq2
          go_wp2
          go_round
          case rel => exact ⟨k + 1, by omega, by go_num, by rw [HS.out, HP.out]; rfl⟩
          case measure => simp [intOf]; omega
    · go_wp2
      go_ret
      exact ⟨ret_int (by rw [List.take_of_length_le (by rw [S_length]; omega)]), rfl⟩


/-- A SLICE OF BYTES AS IT READS: nil, or a row. -/
def Reads (w : World) (v : Value) (zs : List Int) : Prop :=
  (v = .slice none 0 0 ∧ zs = []) ∨ ∃ x c, v = .slice (some x) zs.length c ∧ ∀ i, i < zs.length → w.cell? (x.add i) = some (.int .u8 (zs.getD i 0))


theorem Try.eq22 (w : World) (a : Option Addr) (n c n' c' : Nat) : (binOp .eql 22 (.slice a n c) (.slice none n' c')).run Try.prog w = .ok (.bool a.isNone) w := Lib.run_eql_slice_nil w _ _ a n c n' c' Try.underlying22

theorem clone_nil (w : World) : Calls Try.prog 6 #[.slice none 0 0] w fun e w' => e = .returned (.slice none 0 0) ∧ w' = w := by
  have hs1 := Try.eq22
  go_enter Try.func6, Try.ntmps6
  go_wp2
  go_ret
  exact ⟨rfl, rfl⟩

theorem set_step (zs : List Int) (k : Nat) (hk : k < zs.length) : ((zs.take k).map (Value.int .u8) ++ List.replicate (zs.length - k) (Value.int .u8 0)).set k (Value.int .u8 (zs.getD k 0)) = (zs.take (k + 1)).map (Value.int .u8) ++ List.replicate (zs.length - (k + 1)) (Value.int .u8 0) := by
  have e1 : ((zs.take k).map (Value.int .u8)).length = k := by simp; omega
  rw [List.set_append_right _ _ (by omega), e1, Nat.sub_self, show zs.length - k = (zs.length - (k + 1)) + 1 by omega, List.replicate_succ, List.set_cons_zero, List.take_add_one, List.getElem?_eq_getElem hk, List.map_append, List.append_assoc]
  simp [hk]

theorem grown_set {w wr : World} (h : w.grownBy wr none) {g j : Nat} (hg : w.heap.size ≤ g) (u : Value) : w.grownBy (wr.setCell ⟨g, j, none⟩ u) none :=
  ⟨h.os, h.tape, h.output, by simpa using h.size, fun k hk hne => (Below.heap_setCell _ _ _ _ (by show k ≠ g; omega)).trans (h.block k hk hne)⟩

set_option maxHeartbeats 400000 in
theorem clone_row (b off : Nat) (zs : List Int) (c : Nat) (w : World) (hz : zs.length ≤ 1048576) (hc : ∀ i, i < zs.length → w.cell? ⟨b, off + i, none⟩ = some (.int .u8 (zs.getD i 0))) :
    Calls Try.prog 6 #[.slice (some ⟨b, off, none⟩) zs.length c] w fun e w' => e = .returned (.slice (some ⟨w.heap.size, 0, none⟩) zs.length zs.length) ∧
      w'.ownsRow w.heap.size 5 1 (.slice (some ⟨w.heap.size, 0, none⟩) zs.length zs.length) zs.length (zs.map (Value.int .u8)) ∧ w.grownBy w' none := by
  obtain ⟨i0, hi, hz0, hz1, hz2⟩ := info_parts Try.info5
  have hs1 := Try.eq22
  have Hc : Hid (∀ i, i < zs.length → w.cell? ⟨b, off + i, none⟩ = some (.int .u8 (zs.getD i 0))) := hc
  clear hc
  go_enter Try.func6, Try.ntmps6
  go_wp2_with (at_make; refine wpList_make_full _ rfl _ _ 22 rfl w.heap.size 5 i0 (.int .u8 0) 1 Try.underlying22 hi hz0 hz1 _ _ _ _ zs.length rfl rfl rfl rfl (by rw [hz2]; omega) (by unfold maxLen; omega) (Nat.le_refl _) ?_; intro w1 hown1 hg1)
  have hown2 : w1.ownsRow w.heap.size 5 1 (.slice (some ⟨w.heap.size, 0, none⟩) zs.length zs.length) zs.length ((zs.take 0).map (Value.int .u8) ++ List.replicate (zs.length - 0) (Value.int .u8 0)) := by
    have e1 : (madeCells (Value.int IntKind.u8 0).cells (zs.length * 1)).toList = List.replicate zs.length (Value.int .u8 0) := by rw [Nat.mul_one]; exact toList_madeCells_one _ _
    rw [e1] at hown1
    simpa using hown1
  clear hown1
  go_loopw [4] (fun i wr => ∃ k : Nat, k ≤ zs.length ∧ i = .int .i64 k ∧ wr.ownsRow w.heap.size 5 1 (.slice (some ⟨w.heap.size, 0, none⟩) zs.length zs.length) zs.length ((zs.take k).map (Value.int .u8) ++ List.replicate (zs.length - k) (Value.int .u8 0)) ∧ w.grownBy wr none)
    (fun i _ => zs.length - (intOf i).toNat)
  case atStart => exact ⟨0, Nat.zero_le _, rfl, hown2, hg1⟩
  case round =>
    obtain ⟨k, hk, rfl, hown, hgr⟩ := hrel
    clear hown2 hg1
    by_cases hlt : k < zs.length
    · obtain ⟨z, hzk⟩ : ∃ z, z = zs.getD k 0 := ⟨_, rfl⟩
      have hc1 : wr.cell? ⟨b, off + k, none⟩ = some (.int .u8 z) := by rw [hzk]; exact hgr.cell (Hc.out k hlt) (by simp)
      have hc2 : ∃ u, wr.cell? ⟨w.heap.size, k, none⟩ = some (.int .u8 u) := by
        rw [hown.cellAt k (by omega)]
        refine ⟨0, ?_⟩
        rw [List.getElem?_append_right (by simp; omega), List.getElem?_replicate, if_pos (by simp; omega)]
      obtain ⟨u, hc2⟩ := hc2
      have hf2 := hown.frozenAt k
      have R := hown.stored k (.int .u8 (zs.getD k 0))
      rw [set_step zs k hlt, ← hzk] at R
      have R2 := grown_set (j := k) hgr (Nat.le_refl w.heap.size) (.int .u8 z)
      have HR : Hid ((wr.setCell ⟨w.heap.size, k, none⟩ (.int .u8 z)).ownsRow w.heap.size 5 1 (.slice (some ⟨w.heap.size, 0, none⟩) zs.length zs.length) zs.length ((zs.take (k + 1)).map (Value.int .u8) ++ List.replicate (zs.length - (k + 1)) (Value.int .u8 0)) ∧ w.grownBy (wr.setCell ⟨w.heap.size, k, none⟩ (.int .u8 z)) none) := ⟨R.1, R2⟩
      clear R R2 hown hgr hzk
      go_wp2
      go_roundw
      case rel => exact ⟨k + 1, by omega, by go_num, HR.out.1, HR.out.2⟩
      case measure => simp [intOf]; omega
    · obtain rfl : k = zs.length := by omega
      go_wp2
      go_ret
      refine ⟨rfl, ?_, hgr⟩
      simpa using hown

set_option maxHeartbeats 400000 in
theorem clone_none (a : Addr) (c : Nat) (w : World) :
    Calls Try.prog 6 #[.slice (some a) 0 c] w fun e w' => e = .returned (.slice (some ⟨w.heap.size, 0, none⟩) 0 0) ∧ w'.ownsRow w.heap.size 5 1 (.slice (some ⟨w.heap.size, 0, none⟩) 0 0) 0 [] ∧ w.grownBy w' none := by
  obtain ⟨i0, hi, hz0, hz1, hz2⟩ := info_parts Try.info5
  have hs1 := Try.eq22
  go_enter Try.func6, Try.ntmps6
  go_wp2_with (at_make; refine wpList_make_full _ rfl _ _ 22 rfl w.heap.size 5 i0 (.int .u8 0) 1 Try.underlying22 hi hz0 hz1 _ _ _ _ 0 rfl rfl rfl rfl (by rw [hz2]; omega) (by unfold maxLen; omega) (Nat.le_refl _) ?_; intro w1 hown1 hg1)
  refine wp_loop_rounds 1 ?_
  rw [rounds_succ]
  go_wp2
  go_ret
  have e1 : (madeCells (Value.int IntKind.u8 0).cells (0 * 1)).toList = [] := toList_madeCells_one _ _
  rw [e1] at hown1
  exact ⟨rfl, hown1, hg1⟩

/-- THE CLONE, whatever came in. -/
theorem clone_any (v : Value) (zs : List Int) (w : World) (hr : Reads w v zs) (hz : zs.length ≤ 1048576) :
    Calls Try.prog 6 #[v] w fun e w' => ∃ v', e = .returned v' ∧ w'.ownsRow w.heap.size 5 1 v' zs.length (zs.map (Value.int .u8)) ∧ w.grownBy w' none ∧
      ((v = .slice none 0 0 ∧ v' = .slice none 0 0) ∨ (v ≠ .slice none 0 0 ∧ v' = .slice (some ⟨w.heap.size, 0, none⟩) zs.length zs.length)) := by
  rcases hr with ⟨rfl, rfl⟩ | ⟨⟨b, off, spot⟩, c, rfl, hc⟩
  · refine (clone_nil w).mono ?_
    rintro e w' ⟨rfl, rfl⟩
    exact ⟨_, rfl, World.ownsRow_nil _ _ _ _, World.grownBy.refl _ _, .inl ⟨rfl, rfl⟩⟩
  · by_cases h0 : zs = []
    · subst h0
      refine (clone_none _ c w).mono ?_
      rintro e w' ⟨rfl, h1, h2⟩
      exact ⟨_, rfl, h1, h2, .inr ⟨by simp, rfl⟩⟩
    · have hpos : 0 < zs.length := List.length_pos_iff.2 h0
      have hspot : spot = none := by simpa [Addr.add] using World.cell?_spot (hc 0 hpos)
      subst hspot
      refine (clone_row b off zs c w hz (fun i hi => by rw [← Addr.add_lit]; exact hc i hi)).mono ?_
      rintro e w' ⟨rfl, h1, h2⟩
      exact ⟨_, rfl, h1, h2, .inr ⟨by simp, rfl⟩⟩

end Go.Proofs.Qxb6627918a
