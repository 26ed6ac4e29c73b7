/-
  THE FIRST LAW's WALK (function 3, FnAppendRawStringDecodesBack) out of its callees' contracts.
-/
import Derived.Test.Qxb6627918aReads
import Derived.Deep.QuietTactic
import Derived.BigQuiet
namespace Go.Proofs.Qxb6627918a
open Go.RowKit

theorem out_lo (zs es : List Int) (i : Nat) (h : i < zs.length) : (zs ++ 34 :: (es ++ [34])).getD i 0 = zs.getD i 0 := by
  simp [List.getD, List.getElem?_append_left h]
theorem out_at (zs es : List Int) : (zs ++ 34 :: (es ++ [34])).getD zs.length 0 = 34 := by simp [List.getD]
theorem out_mid (zs es : List Int) (i : Nat) (h : i < es.length) : (zs ++ 34 :: (es ++ [34])).getD (zs.length + 1 + i) 0 = es.getD i 0 := by
  rw [List.getD, List.getElem?_append_right (by omega), show zs.length + 1 + i - zs.length = i + 1 by omega, List.getElem?_cons_succ, List.getElem?_append_left h]
  rfl
theorem out_end (zs es : List Int) : (zs ++ 34 :: (es ++ [34])).getD (zs.length + 1 + es.length) 0 = 34 := by
  rw [List.getD, List.getElem?_append_right (by omega), show zs.length + 1 + es.length - zs.length = es.length + 1 by omega, List.getElem?_cons_succ, List.getElem?_append_right (by omega)]
  simp
theorem out_len (zs es : List Int) : (zs ++ 34 :: (es ++ [34])).length = zs.length + es.length + 2 := by simp; omega

theorem own_cells {w : World} {base : Nat} {v : Value} {xs : List Int} (h : w.ownsRow base 5 1 v xs.length (xs.map (Value.int .u8))) (hp : 0 < xs.length) :
    ∃ g c, base ≤ g ∧ xs.length ≤ c ∧ v = .slice (some ⟨g, 0, none⟩) xs.length c ∧ ∀ i, i < xs.length → w.cell? ⟨g, i, none⟩ = some (.int .u8 (xs.getD i 0)) := by
  have h' := h
  rcases h.2 with ⟨_, h0⟩ | ⟨g, cap, cur, rfl, hb, _, hnc, _⟩
  · omega
  · refine ⟨g, cap, hb, hnc, rfl, fun i hi => ?_⟩
    rw [h'.cellAt i (by omega)]
    simp [List.getD, hi]

theorem own_case {w : World} {base : Nat} {v : Value} {xs : List Int} (h : w.ownsRow base 5 1 v xs.length (xs.map (Value.int .u8))) :
    (v = .slice none 0 0 ∧ xs = []) ∨ ∃ g c, v = .slice (some ⟨g, 0, none⟩) xs.length c ∧ ∀ i, i < xs.length → w.cell? ⟨g, i, none⟩ = some (.int .u8 (xs.getD i 0)) := by
  have h' := h
  rcases h.2 with ⟨e, h0⟩ | ⟨g, cap, cur, rfl, _⟩
  · exact .inl ⟨e, List.eq_nil_of_length_eq_zero h0⟩
  · refine .inr ⟨_, cap, rfl, fun i hi => ?_⟩
    rw [h'.cellAt i (by omega)]
    simp [List.getD, hi]

theorem reads_own {w : World} {base : Nat} {v : Value} {xs : List Int} (h : w.ownsRow base 5 1 v xs.length (xs.map (Value.int .u8))) : Reads w v xs := by
  have h' := h
  rcases h.2 with ⟨e, h0⟩ | ⟨g, cap, cur, rfl, _⟩
  · exact .inl ⟨e, List.eq_nil_of_length_eq_zero h0⟩
  · refine .inr ⟨_, cap, rfl, fun i hi => ?_⟩
    rw [Addr.add_lit, Nat.zero_add, h'.cellAt i (by omega)]
    simp [List.getD, hi]

theorem reads_slice {w : World} {v : Value} {zs : List Int} (h : Reads w v zs) : ∃ a c, v = .slice a zs.length c := by
  rcases h with ⟨rfl, rfl⟩ | ⟨x, c, rfl, _⟩
  · exact ⟨none, 0, rfl⟩
  · exact ⟨_, _, rfl⟩

theorem below_grown {w w1 w2 : World} {row : Option Nat} (h : Below w.heap.size w w1) (hg : w1.grownBy w2 row) (hr : ∀ k, row = some k → w.heap.size ≤ k) : Below w.heap.size w w2 := h.grown hg h.size hr

set_option maxHeartbeats 800000 in
theorem lawA (v : Value) (zs : List Int) (s : ByteArray) (w : World) (hr : Reads w v zs) (hlm : zs.length ≤ maxLen) (w1 : s.size ≤ maxLen) :
    Calls Try.prog 3 #[v, .string s] w fun e w' => e = .returned (.bool true) ∧ Below w.heap.size w w' := by
  obtain ⟨a0, c0, rfl⟩ := reads_slice hr
  by_cases hfit : zs.length + s.size ≤ 1048576
  · have hf : fits2 zs.length s.size = true := by simp [fits2, hfit]
    go_enter Try.func3, Try.ntmps3
    go_wp2_with (go_at_call 5; refine (bytes2 _ _ _ _ _ hlm w1).mono ?_; rintro e w' ⟨rfl, hw⟩; subst w'; rw [hf])
    refine (clone_any _ zs _ hr (by omega)).mono ?_
    rintro e w2 ⟨v2, rfl, hown2, hg2, hv2⟩
    go_wp2_with fail
    refine (clone_any _ zs _ (reads_own hown2) (by omega)).mono ?_
    rintro e w3 ⟨v3, rfl, hown3, hg3, hv3⟩
    have hown2' := hown2.kept hg3 (by cases h : v2.ownBlock <;> simp)
    go_wp2_with fail
    refine (raw_any v2 zs s w.heap.size w3 hown2' (Nat.le_trans hg2.size hg3.size) (by omega) (by omega)).mono ?_
    rintro e w4 ⟨v4, rfl, hO⟩
    have hob2 : ∀ k, v2.ownBlock = some k → w.heap.size ≤ k := fun k hk => (hown2.lt k hk).1
    have hbel : Below w.heap.size w w4 := below_grown (below_grown (below_grown (Below.refl _ _) hg2 (by simp)) hg3 (by simp)) hO.grown hob2
    have hown3' : w4.ownsRow w2.heap.size 5 1 v3 zs.length (zs.map (Value.int .u8)) := by
      refine hown3.kept hO.grown ?_
      rcases hv3 with ⟨_, rfl⟩ | ⟨_, rfl⟩
      · exact .inl rfl
      · refine .inr (fun e => ?_)
        have := (hown2.lt w2.heap.size e.symm).2
        omega
    obtain ⟨g, c, hg, hcap, rfl, hcell⟩ := own_cells hO.own (by rw [out_len]; omega)
    rw [out_len] at hcap hcell
    have hrd := own_case hown3'
    clear hown2 hown3 hown2' hown3' hO hv2 hv3 hg2 hg3 hob2 hf hr
    have es := (esc_le (S s)).2
    rw [S_length] at es
    have ca := hcell zs.length (by omega)
    rw [out_at] at ca
    have cb := hcell (zs.length + 1 + (esc (S s)).length) (by omega)
    rw [out_end] at cb
    have hmid : ∀ i, i < (esc (S s)).length → w4.cell? ⟨g, zs.length + 1 + i, none⟩ = some (.int .u8 ((esc (S s)).getD i 0)) := fun i hi => by
      rw [hcell _ (by omega), out_mid _ _ _ hi]
    have hlo : ∀ i, i < zs.length → w4.cell? ⟨g, i, none⟩ = some (.int .u8 (zs.getD i 0)) := fun i hi => by
      rw [hcell _ (by omega), out_lo _ _ _ hi]
    rw [out_len]
    have Hmid : Hid (∀ i, i < (esc (S s)).length → w4.cell? ⟨g, zs.length + 1 + i, none⟩ = some (.int .u8 ((esc (S s)).getD i 0))) := hmid
    have Hlo : Hid (∀ i, i < zs.length → w4.cell? ⟨g, i, none⟩ = some (.int .u8 (zs.getD i 0))) := hlo
    clear hcell hmid hlo
    obtain ⟨E, hE⟩ : ∃ E, E = (esc (S s)).length := ⟨_, rfl⟩
    rw [← hE] at es cb hcap ⊢
    rw [show zs.length + 1 + E = zs.length + E + 1 by omega] at cb
    have HE : Hid (E = (esc (S s)).length) := hE
    clear hE
    rcases hrd with ⟨rfl, hz0⟩ | ⟨x, c3, rfl, hc3⟩
    · have hzl : zs.length = 0 := by rw [hz0]; rfl
      clear hz0
      rw [hzl] at ca cb hcap
      have Hm : Hid (∀ i, i < (esc (S s)).length → w4.cell? ⟨g, 1 + i, none⟩ = some (.int .u8 ((esc (S s)).getD i 0))) := by have := Hmid.out; rw [hzl] at this; show ∀ i, _; simpa using this
      rw [Nat.zero_add] at cb hcap
      have ee : ((34 : Int) != 34) = false := rfl
      clear Hmid Hlo
      simp only [hzl, Nat.zero_add]
      go_wp2_with fail
      refine wp_loop_rounds 1 ?_
      rw [rounds_succ]
      go_wp2_with fail
      refine (reads_any g 1 _ E s _ (by omega) HE ?_).mono ?_
      · intro i hi
        exact Hm.out i (by rw [← HE.out]; exact hi)
      rintro e w' ⟨rfl, hw⟩
      subst w'
      go_wp2
      go_ret
      exact ⟨rfl, hbel⟩
    · have Hc3 : Hid (∀ i, i < zs.length → w4.cell? ⟨x, i, none⟩ = some (.int .u8 (zs.getD i 0))) := hc3
      clear hc3
      go_wp2_with fail
      go_loopw [7] (fun i wr => ∃ k nq : Nat, k ≤ zs.length ∧ i = .int .i64 k ∧ wr = w4.drewN nq) (fun i _ => zs.length - (intOf i).toNat)
      case atStart => exact ⟨0, 0, Nat.zero_le _, rfl, rfl⟩
      case round =>
        obtain ⟨k, nq, hk, rfl, rfl⟩ := hrel
        by_cases hlt : k < zs.length
        · have c1 := Hlo.out k hlt
          have c2 := Hc3.out k hlt
          have b1 : (k : Int) < (zs.length : Int) + E + 2 := by omega
          generalize zs.getD k 0 = z at c1 c2
          go_wp2_with fail
          go_quiet (fail)
          go_wp2
          go_roundw
          case rel => exact ⟨k + 1, _, by omega, by go_num, rfl⟩
          case measure => simp [intOf]; omega
        · have ee : ((34 : Int) != 34) = false := rfl
          go_wp2_with fail
          refine (reads_any g (zs.length + 1) _ E s _ (by omega) HE ?_).mono ?_
          · intro i hi
            simpa using Hmid.out i (by rw [← HE.out]; exact hi)
          rintro e w' ⟨rfl, hw⟩
          subst w'
          go_wp2
          go_ret
          exact ⟨rfl, below_drewN hbel _⟩
  · have hf : fits2 zs.length s.size = false := by simp [fits2, hfit]
    go_enter Try.func3, Try.ntmps3
    go_wp2_with (go_at_call 5; refine (bytes2 _ _ _ _ _ hlm w1).mono ?_; rintro e w' ⟨rfl, hw⟩; subst w'; rw [hf])
    go_ret
    exact ⟨rfl, Below.refl _ _⟩
end Go.Proofs.Qxb6627918a
