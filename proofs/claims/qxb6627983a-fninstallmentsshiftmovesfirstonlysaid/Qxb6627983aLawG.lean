/-
  THE SECOND LAW's WALK of seat b6627983a (function 4, FnInstallmentsShiftMovesFirstOnly).
-/
import Derived.Test.Qxb6627983aLawF
namespace Go.Proofs.Qxb6627983a
open Go.RowKit

theorem WF.mono {n : Nat} {O V : Nat → Int} (h : WF n O V) (i : Nat) : ∀ j, i + j < n → V i ≤ V (i + j)
  | 0, _ => Int.le_refl _
  | j + 1, hj => by
    have h1 := h.mono i j (by omega)
    have h2 := (h.2 (i + j) (by omega)).2
    rw [show i + (j + 1) = i + j + 1 by omega]
    omega

theorem WF.low {n : Nat} {O V : Nat → Int} (h : WF n O V) {i : Nat} (hi : i < n) : V 0 ≤ V i := by
  have := h.mono 0 i (by omega)
  rwa [Nat.zero_add] at this
theorem WF.high {n : Nat} {O V : Nat → Int} (h : WF n O V) {i : Nat} (hi : i < n) : V i ≤ V (n - 1) := by
  have := h.mono i (n - 1 - i) (by omega)
  rwa [show i + (n - 1 - i) = n - 1 by omega] at this

theorem sh_add (V : Nat → Int) (c : Int) (j : Nat) (hj : j ≠ 0) : Sh (fun i => V i + c) j = Sh V j := by
  unfold Sh
  simp [hj]
  omega
theorem sh_add0 (V : Nat → Int) (c : Int) : Sh (fun i => V i + c) 0 = Sh V 0 + c := by simp [Sh]

/-- What the two tests leave: every raised total stays in range. -/
def Fits (n : Nat) (V : Nat → Int) (c : Int) : Prop := ∀ i, i < n → 1 ≤ V i + c ∧ V i + c ≤ 9223372036854775807

set_option maxHeartbeats 2000000 in
set_option maxRecDepth 100000 in
theorem lawG (ao av : Option Addr) (n m c d : Nat) (O V : Nat → Int) (k : Int) (w : World) (hO : IntSl .i32 w ao n O) (hV : IntSl .i64 w av m V) (hb : ∀ i, i < m → V i ≤ 9223372036854775807) (hk : -9223372036854775808 ≤ k ∧ k ≤ 9223372036854775807) :
    Calls Try.prog 4 #[.slice ao n c, .slice av m d, .int .i64 k] w fun e w' => e = .returned (.bool true) ∧ Below w.heap.size w w' := by
  have hn := hO.le
  have hm := hV.le
  have HO : Hid (IntSl .i32 w ao n O) := hO
  have HV : Hid (IntSl .i64 w av m V) := hV
  have Hb : Hid (∀ i, i < m → V i ≤ 9223372036854775807) := hb
  have Hn : Hid (n ≤ maxLen) := hn
  have Hm : Hid (m ≤ maxLen) := hm
  obtain ⟨k1, k2⟩ := hk
  unfold maxLen at hn hm
  clear hO hV hb
  go_enter Try.func4, Try.ntmps4
  go_wp2_with fail
  refine (bytes10 ao av n m c d k w Hn.out Hm.out).mono ?_
  rintro e w' ⟨r, rfl, hw, _⟩
  subst w'
  cases r with
  | false =>
    go_wp2
    go_ret
    exact ⟨rfl, Below.refl _ _⟩
  | true =>
  by_cases h1 : n ≤ 65536
  · by_cases h2 : m ≤ 65536
    · by_cases h2b : 8 * n + 8 * m ≤ 1048576
      · by_cases h3 : n = m
        · subst h3
          go_wp2_with fail
          refine (well_any ao av n c d O V w HO.out HV.out).mono ?_
          rintro e w' ⟨r, rfl, hw, hwf⟩
          subst w'
          cases r with
          | false =>
            go_wp2
            go_ret
            exact ⟨rfl, Below.refl _ _⟩
          | true =>
          have HW : Hid (WF n O V) := hwf rfl
          clear hwf
          have hcases : (0 < n ∧ ((0 < k ∧ ¬ V (n - 1) ≤ 9223372036854775807 - k) ∨ (k < 0 ∧ V 0 + k < 1))) ∨ (Fits n V k ∧ ((0 < n ∧ ((0 < k ∧ V (n - 1) ≤ 9223372036854775807 - k) ∨ (k < 0 ∧ ¬ V 0 + k < 1) ∨ k = 0)) ∨ n = 0)) := by
            by_cases hz : 0 < n
            · by_cases hp : 0 < k
              · by_cases hq : V (n - 1) ≤ 9223372036854775807 - k
                · exact .inr ⟨fun i hi => ⟨by have := HW.out.bounds hi; omega, by have := HW.out.high hi; omega⟩, .inl ⟨hz, .inl ⟨hp, hq⟩⟩⟩
                · exact .inl ⟨hz, .inl ⟨hp, hq⟩⟩
              · by_cases hp2 : k < 0
                · by_cases hq : V 0 + k < 1
                  · exact .inl ⟨hz, .inr ⟨hp2, hq⟩⟩
                  · exact .inr ⟨fun i hi => ⟨by have := HW.out.low hi; omega, by have := Hb.out i hi; omega⟩, .inl ⟨hz, .inr (.inl ⟨hp2, hq⟩)⟩⟩
                · exact .inr ⟨fun i hi => ⟨by have := HW.out.bounds hi; omega, by have := Hb.out i hi; omega⟩, .inl ⟨hz, .inr (.inr (by omega))⟩⟩
            · exact .inr ⟨fun i hi => by omega, .inr (by omega)⟩
          rcases hcases with ⟨hz, hbad⟩ | ⟨hF, hgood⟩
          · obtain ⟨b, o, hx, c1⟩ := HV.out.cell (n - 1) (by omega)
            obtain ⟨b', o', hx', c2⟩ := HV.out.cell 0 hz
            subst hx
            obtain ⟨rfl, rfl⟩ : b = b' ∧ o = o' := by simpa using hx'
            have hv1 := HW.out.bounds (i := n - 1) (by omega)
            have hv2 := Hb.out (n - 1) (by omega)
            have hv3 := HW.out.bounds hz
            have hv4 := Hb.out 0 hz
            have hnm : (n : Int) - 1 < (n : Int) := by omega
            have hzi : (0 : Int) < (n : Int) := by omega
            rw [Nat.add_zero] at c2
            rcases hbad with ⟨hp, hq⟩ | ⟨hp, hq⟩
            · go_wp2
              go_ret
              exact ⟨rfl, Below.refl _ _⟩
            · go_wp2
              go_ret
              exact ⟨rfl, Below.refl _ _⟩
          · have HF : Hid (Fits n V k) := hF
            clear hF
            have hgood' : (0 < n ∧ 0 < k ∧ V (n - 1) ≤ 9223372036854775807 - k) ∨ (0 < n ∧ k < 0 ∧ ¬ V 0 + k < 1) ∨ (0 < n ∧ k ≤ 0 ∧ 0 ≤ k) ∨ n ≤ 0 := by
              rcases hgood with ⟨hz, h | h | h⟩ | h
              · exact .inl ⟨hz, h⟩
              · exact .inr (.inl ⟨hz, h⟩)
              · exact .inr (.inr (.inl ⟨hz, by omega, by omega⟩))
              · exact .inr (.inr (.inr (by omega)))
            clear hgood
            rcases hgood' with ⟨hz, hp, hq⟩ | ⟨hz, hp, hq⟩ | ⟨hz, hp, hq⟩ | hz
            obtain ⟨b, o, hx, c1⟩ := HV.out.cell (n - 1) (by omega)
            subst hx
            have hv1 := HW.out.bounds (i := n - 1) (by omega)
            have hv2 := Hb.out (n - 1) (by omega)
            have hnm : (n : Int) - 1 < (n : Int) := by omega
            have hzi : (0 : Int) < (n : Int) := by omega
            rotate_left
            obtain ⟨b, o, hx, c1⟩ := HV.out.cell 0 hz
            rw [Nat.add_zero] at c1
            subst hx
            have hv1 := HW.out.bounds hz
            have hv2 := Hb.out 0 hz
            have hzi : (0 : Int) < (n : Int) := by omega
            rotate_left
            rotate_left
            rotate_left
            all_goals go_wp2_with fail
            clear c1
            rotate_left
            clear c1
            rotate_left
            rotate_left
            clear hz
            rename ¬ 0 < n => hh
            clear hh
            rotate_left
            all_goals
              refine (pair_any _ _ n c d O V 0 n _ _ 0 w HO.out HV.out rfl (by simp) (by omega) (by omega) (fun i _ hi => ⟨by have := HW.out.bounds (i := i) (by omega); omega, by have := Hb.out i (by omega); omega⟩)).mono ?_
              rintro e w1 ⟨p1, g1, rfl, hp1, hI1, hB1⟩
              go_wp2_with fail
              refine (inst_any p1 g1 n _ _ w1 hp1 hI1 (by omega) (fun j hj => ⟨by have := HW.out.bounds (i := 0 + j) (by omega); omega, by have := Hb.out (0 + j) (by omega); omega⟩) (fun j hj => by have := (HW.out.2 (0 + j) (by omega)).2; rw [show 0 + (j + 1) = 0 + j + 1 by omega]; omega)).mono ?_
              rintro e w2 ⟨q1, rfl, hJ1, hB2⟩
              have HB : Hid (Below w.heap.size w w2) := chainB hB1 hB2 (Nat.le_refl _)
              have HJ1 : Hid (Ins w2 q1 n O (Sh V)) := hJ1.congr (fun j _ => by rw [Nat.zero_add]) (fun j _ => by unfold Sh; simp)
              clear hp1 hI1 hB1 hB2 hJ1
              go_wp2_with fail
              refine (pair_any _ _ n c d O V 0 n _ _ k w2 (HO.out.keep HB.out) (HV.out.keep HB.out) rfl (by simp) (by omega) (by omega) (fun i _ hi => HF.out i (by omega))).mono ?_
              rintro e w3 ⟨p1, g1, rfl, hp1, hI1, hB1⟩
              go_wp2_with fail
              refine (inst_any p1 g1 n _ _ w3 hp1 hI1 (by omega) (fun j hj => HF.out (0 + j) (by omega)) (fun j hj => by have := (HW.out.2 (0 + j) (by omega)).2; rw [show 0 + (j + 1) = 0 + j + 1 by omega]; omega)).mono ?_
              rintro e w4 ⟨q2, rfl, hJ2, hB2⟩
              have hB12 := chainB hB1 hB2 (Nat.le_refl _)
              replace HB : Hid (Below w.heap.size w w4) := chainB HB.out hB12 (Nat.le_refl _)
              replace HJ1 : Hid (Ins w4 q1 n O (Sh V)) := HJ1.out.keep hB12
              have HJ2 : Hid (Ins w4 q2 n O (Sh (fun i => V i + k))) := hJ2.congr (fun j _ => by rw [Nat.zero_add]) (fun j _ => by unfold Sh; simp)
              clear hp1 hI1 hB1 hB2 hJ2 hB12
              have t1 : ((n : Int) != (n : Int)) = false := by simp
              go_wp2_with fail
              go_loopw [10, 11] (fun rn i wr => ∃ j : Nat, j ≤ n ∧ i = .int .i64 j ∧ rn = .int .i64 (pre V j) ∧ Hid (Below w4.heap.size w4 wr)) (fun _ i _ => n - (intOf i).toNat)
              case atStart => exact ⟨0, Nat.zero_le _, rfl, rfl, Below.refl _ _⟩
              case round =>
                obtain ⟨j, hj, rfl, rfl, HX⟩ := hrel
                by_cases hlt : j < n
                · obtain ⟨b, o, hx, c0⟩ := (HO.out.keep (chainB HB.out HX.out (Nat.le_refl _))).cell j hlt
                  obtain ⟨d0, d1⟩ := HJ1.out.keep HX.out j hlt
                  obtain ⟨e0, e1⟩ := HJ2.out.keep HX.out j hlt
                  subst hx
                  have hsp := sh_pos HW.out hlt
                  have hs1 := hsp.1
                  have hs2 := hsp.2
                  have hb1 := HW.out.bounds hlt
                  have hb2 := Hb.out j hlt
                  have hps := pre_sh V j
                  have hp1 : pre V j + Sh V j ≤ V j := by omega
                  have hp2 : V j ≤ pre V j + Sh V j := by omega
                  have Hps : Hid (pre V j + Sh V j = V j) := hps
                  have hji : (0 : Int) ≤ (j : Int) := by omega
                  have hjn : (j : Int) < (n : Int) := by omega
                  clear hsp hps
                  have hS0 : wr.drew.cell? ⟨q1, j * 2, none⟩ = some (.int .i32 (O j)) ∧ wr.drew.cell? ⟨b, o + j, none⟩ = some (.int .i32 (O j)) ∧ wr.drew.cell? ⟨q2, j * 2, none⟩ = some (.int .i32 (O j)) := ⟨d0, c0, e0⟩
                  go_wp2_with fail
                  go_region_held3 (fun w' => w'.cell? ⟨q1, j * 2, none⟩ = some (.int .i32 (O j)) ∧ w'.cell? ⟨b, o + j, none⟩ = some (.int .i32 (O j)) ∧ w'.cell? ⟨q2, j * 2, none⟩ = some (.int .i32 (O j)))
                    (first | with_reducible exact hS0 | with_reducible exact hS1)
                    (first
                      | (go_at_call 9; refine (ord_any _ _).mono ?_; rintro e y1 ⟨rfl, hy1⟩; (replace hy1 := undrew hy1); (have hS1 : y1.cell? ⟨q1, j * 2, none⟩ = some (.int .i32 (O j)) ∧ y1.cell? ⟨b, o + j, none⟩ = some (.int .i32 (O j)) ∧ y1.cell? ⟨q2, j * 2, none⟩ = some (.int .i32 (O j)) := ⟨kept_cell hy1 d0, kept_cell hy1 c0, kept_cell hy1 e0⟩); (have d1y := kept_cell hy1 d1); (have e1y := kept_cell hy1 e1); (have Hy1 : Hid _ := hy1); clear hy1))
                  clear hS0 hS1
                  by_cases h0 : j = 0
                  · have hq : ((j : Int) == 0) = true := by simpa using h0
                    have hf1 := (HF.out j hlt).1
                    have hf2 := (HF.out j hlt).2
                    have e9 : Sh (fun i => V i + k) j = Sh V j + k := by rw [h0]; exact sh_add0 V k
                    have e8 : Sh V j = V j := by rw [h0]; exact sh_zero V
                    rw [e9] at e1y
                    have g1 : 1 ≤ Sh V j + k := by omega
                    have g2 : Sh V j + k ≤ 9223372036854775807 := by omega
                    clear h0 e9 e8
                    go_wp2
                    go_roundw
                    case rel => exact ⟨j + 1, by omega, by go_num, by rw [pre_succ, Hps.out], chainB HX.out Hy1.out (Nat.le_refl _)⟩
                    case measure => simp [intOf]; omega
                  · have hq : ((j : Int) == 0) = false := by simpa using h0
                    rw [sh_add V k j h0] at e1y
                    clear h0
                    go_wp2
                    go_roundw
                    case rel => exact ⟨j + 1, by omega, by go_num, by rw [pre_succ, Hps.out], chainB HX.out Hy1.out (Nat.le_refl _)⟩
                    case measure => simp [intOf]; omega
                · by_cases hz9 : 0 < n
                  · obtain ⟨b, o, hx, c9⟩ := (HV.out.keep (chainB HB.out HX.out (Nat.le_refl _))).cell (n - 1) (by omega)
                    have t9 : ((pre V j) != V (n - 1)) = false := by
                      rw [bne_eq_false_iff_eq, show j = n by omega]
                      unfold pre
                      rw [if_neg (by omega)]
                    have hni : (0 : Int) < (n : Int) := by omega
                    have hnm : (n : Int) - 1 < (n : Int) := by omega
                    first | subst hx | (cases hx)
                    go_wp2
                    go_ret
                    exact ⟨rfl, chainB HB.out HX.out (Nat.le_refl _)⟩
                  · first
                      | exact absurd hz hz9
                      | (go_wp2
                         go_ret
                         exact ⟨rfl, chainB HB.out HX.out (Nat.le_refl _)⟩)
        · have h3' : ((n : Int) != (m : Int)) = true := by rw [bne_iff_ne]; omega
          go_wp2
          go_ret
          exact ⟨rfl, Below.refl _ _⟩
      · exfalso
        omega
    · go_wp2
      go_ret
      exact ⟨rfl, Below.refl _ _⟩
  · go_wp2
    go_ret
    exact ⟨rfl, Below.refl _ _⟩
end Go.Proofs.Qxb6627983a
