/-
  THE FIRST LAW's WALK of seat b6627983a (function 3, FnInstallmentsCutAgrees).
-/
import Derived.Test.Qxb6627983aBuild
namespace Go.Proofs.Qxb6627983a
open Go.RowKit

theorem Ins.congr {w : World} {h m : Nat} {A B A' B' : Nat → Int} (hi : Ins w h m A B) (h1 : ∀ j, j < m → A' j = A j) (h2 : ∀ j, j < m → B' j = B j) : Ins w h m A' B' := fun j hj => by
  rw [h1 j hj, h2 j hj]; exact hi j hj

theorem WF.bounds {n : Nat} {O V : Nat → Int} (h : WF n O V) {i : Nat} (hi : i < n) : 1 ≤ V i := (h.1 i hi).2.2

/-- BUILD AND READ BACK, the steps lo .. lo + m - 1, each raised by add. -/
theorem pair_any (ao av : Option Addr) (n c d : Nat) (O V : Nat → Int) (lo m : Nat) (l hh add : Int) (w : World) (hO : IntSl .i32 w ao n O) (hV : IntSl .i64 w av n V) (hl : l = (lo : Int)) (he : hh = ((lo + m : Nat) : Int)) (h2 : lo + m ≤ n) (hn : n ≤ 1048576)
    (hadd : ∀ i, lo ≤ i → i < lo + m → 1 ≤ V i + add ∧ V i + add ≤ 9223372036854775807) :
    Calls Try.prog 7 #[.slice ao n c, .slice av n d, .int .i64 l, .int .i64 hh, .int .i64 add] w fun e w' =>
      ∃ p h, e = .returned (.pointer (some ⟨p, 0, none⟩)) ∧ w'.cell? ⟨p, 0, none⟩ = some (.slice (some ⟨h, 0, none⟩) m m) ∧ Ins w' h m (fun j => O (lo + j)) (fun j => V (lo + j) + add) ∧ Below w.heap.size w w' := by
  subst hl
  subst he
  have := build_any ao av n c d O V lo (lo + m) add w hO hV (by omega) h2 hn (fun i h1 h2 => by have := hadd i h1 h2; omega)
  rw [show lo + m - lo = m by omega] at this
  exact this

theorem pre_sh (V : Nat → Int) (i : Nat) : pre V i + Sh V i = V i := by unfold pre Sh; omega
theorem pre_succ (V : Nat → Int) (i : Nat) : pre V (i + 1) = V i := rfl

theorem sh_pos {n : Nat} {O V : Nat → Int} (h : WF n O V) {i : Nat} (hi : i < n) : 1 ≤ Sh V i ∧ 0 ≤ pre V i := by
  unfold Sh pre
  by_cases e : i = 0
  · subst e
    have := h.bounds hi
    simp
    omega
  · have h1 := h.2 (i - 1) (by omega)
    have h2 := h.bounds (i := i - 1) (by omega)
    rw [show i - 1 + 1 = i by omega] at h1
    simp [e]
    omega

theorem cut_sh (V : Nat → Int) (k j : Nat) (hj : 0 < j) : Sh (fun j => V (k + j)) j = Sh V (k + j) := by
  unfold Sh
  simp [show j ≠ 0 by omega, show k + (j - 1) = k + j - 1 by omega]
theorem cut_sh0 (V : Nat → Int) (k : Nat) : Sh (fun j => V (k + j)) 0 = V k := by simp [Sh]
theorem sh_cut (V : Nat → Int) (k : Nat) (hk : 0 < k) : Sh V k + V (k - 1) = V k := by unfold Sh; simp [show k ≠ 0 by omega]
theorem sh_zero (V : Nat → Int) : Sh V 0 = V 0 := by simp [Sh]

set_option maxHeartbeats 2000000 in
set_option maxRecDepth 100000 in
theorem lawF (ao av : Option Addr) (n m c d : Nat) (O V : Nat → Int) (k : Int) (w : World) (hO : IntSl .i32 w ao n O) (hV : IntSl .i64 w av m V) (hb : ∀ i, i < m → V i ≤ 9223372036854775807) :
    Calls Try.prog 3 #[.slice ao n c, .slice av m d, .int .i64 k] w fun e w' => e = .returned (.bool true) ∧ Below w.heap.size w w' := by
  have hn := hO.le
  have hm := hV.le
  have HO : Hid (IntSl .i32 w ao n O) := hO
  have HV : Hid (IntSl .i64 w av m V) := hV
  have Hb : Hid (∀ i, i < m → V i ≤ 9223372036854775807) := hb
  have Hn : Hid (n ≤ maxLen) := hn
  have Hm : Hid (m ≤ maxLen) := hm
  unfold maxLen at hn hm
  clear hO hV hb
  go_enter Try.func3, Try.ntmps3
  go_wp2_with fail
  refine (bytes5 ao av n m c d k w Hn.out Hm.out).mono ?_
  rintro e w' ⟨r, rfl, hw, _⟩
  subst w'
  cases r with
  | false =>
    go_wp2
    go_ret
    exact ⟨rfl, Below.refl _ _⟩
  | true =>
  by_cases h1 : n ≤ 65536
  · by_cases h2 : m ≤ 65536
    · by_cases h3 : n = m
      · subst h3
        by_cases h4 : 0 ≤ k
        · by_cases h5 : k ≤ n
          · obtain ⟨kk, rfl⟩ := Int.eq_ofNat_of_zero_le h4
            have hkn : kk ≤ n := by omega
            clear h4 h5
            go_wp2_with fail
            refine (well_any ao av n c d O V w HO.out HV.out).mono ?_
            rintro e w' ⟨r, rfl, hw, hwf⟩
            subst w'
            cases r with
            | false =>
              go_wp2
              go_ret
              exact ⟨rfl, Below.refl _ _⟩
            | true =>
            have HW : Hid (WF n O V) := hwf rfl
            clear hwf
            go_wp2_with fail
            refine (pair_any ao av n c d O V 0 n _ _ 0 w HO.out HV.out rfl (by simp) (by omega) (by omega) (fun i _ hi => ⟨by have := HW.out.bounds (i := i) (by omega); omega, by have := Hb.out i (by omega); omega⟩)).mono ?_
            rintro e w1 ⟨p1, g1, rfl, hp1, hI1, hB1⟩
            go_wp2_with fail
            refine (inst_any p1 g1 n _ _ w1 hp1 hI1 (by omega) (fun j hj => ⟨by have := HW.out.bounds (i := 0 + j) (by omega); omega, by have := Hb.out (0 + j) (by omega); omega⟩) (fun j hj => by have := (HW.out.2 (0 + j) (by omega)).2; rw [show 0 + (j + 1) = 0 + j + 1 by omega]; omega)).mono ?_
            rintro e w2 ⟨q1, rfl, hJ1, hB2⟩
            have HB : Hid (Below w.heap.size w w2) := chainB hB1 hB2 (Nat.le_refl _)
            have HJ1 : Hid (Ins w2 q1 n O (Sh V)) := hJ1.congr (fun j _ => by rw [Nat.zero_add]) (fun j _ => by unfold Sh; simp)
            clear hp1 hI1 hB1 hB2 hJ1
            go_wp2_with fail
            refine (pair_any ao av n c d O V 0 kk _ _ 0 w2 (HO.out.keep HB.out) (HV.out.keep HB.out) rfl (by simp) (by omega) (by omega) (fun i _ hi => ⟨by have := HW.out.bounds (i := i) (by omega); omega, by have := Hb.out i (by omega); omega⟩)).mono ?_
            rintro e w3 ⟨p1, g1, rfl, hp1, hI1, hB1⟩
            go_wp2_with fail
            refine (inst_any p1 g1 kk _ _ w3 hp1 hI1 (by omega) (fun j hj => ⟨by have := HW.out.bounds (i := 0 + j) (by omega); omega, by have := Hb.out (0 + j) (by omega); omega⟩) (fun j hj => by have := (HW.out.2 (0 + j) (by omega)).2; rw [show 0 + (j + 1) = 0 + j + 1 by omega]; omega)).mono ?_
            rintro e w4 ⟨q2, rfl, hJ2, hB2⟩
            have hB12 := chainB hB1 hB2 (Nat.le_refl _)
            replace HB : Hid (Below w.heap.size w w4) := chainB HB.out hB12 (Nat.le_refl _)
            replace HJ1 : Hid (Ins w4 q1 n O (Sh V)) := HJ1.out.keep hB12
            have HJ2 : Hid (Ins w4 q2 kk O (Sh V)) := hJ2.congr (fun j _ => by rw [Nat.zero_add]) (fun j _ => by unfold Sh; simp)
            clear hp1 hI1 hB1 hB2 hJ2 hB12
            go_wp2_with fail
            refine (pair_any ao av n c d O V kk (n - kk) _ _ 0 w4 (HO.out.keep HB.out) (HV.out.keep HB.out) rfl (by omega) (by omega) (by omega) (fun i _ hi => ⟨by have := HW.out.bounds (i := i) (by omega); omega, by have := Hb.out i (by omega); omega⟩)).mono ?_
            rintro e w5 ⟨p1, g1, rfl, hp1, hI1, hB1⟩
            go_wp2_with fail
            refine (inst_any p1 g1 (n - kk) _ _ w5 hp1 hI1 (by omega) (fun j hj => ⟨by have := HW.out.bounds (i := kk + j) (by omega); omega, by have := Hb.out (kk + j) (by omega); omega⟩) (fun j hj => by have := (HW.out.2 (kk + j) (by omega)).2; rw [show kk + (j + 1) = kk + j + 1 by omega]; omega)).mono ?_
            rintro e w6 ⟨q3, rfl, hJ3, hB2⟩
            have hB12 := chainB hB1 hB2 (Nat.le_refl _)
            replace HB : Hid (Below w.heap.size w w6) := chainB HB.out hB12 (Nat.le_refl _)
            replace HJ1 : Hid (Ins w6 q1 n O (Sh V)) := HJ1.out.keep hB12
            replace HJ2 : Hid (Ins w6 q2 kk O (Sh V)) := HJ2.out.keep hB12
            have HJ3 : Hid (Ins w6 q3 (n - kk) (fun j => O (kk + j)) (Sh (fun j => V (kk + j)))) := hJ3.congr (fun j _ => rfl) (fun j _ => by unfold Sh; simp)
            clear hp1 hI1 hB1 hB2 hJ3 hB12
            have t1 : ((n : Int) != (n : Int)) = false := by simp
            have t2 : ((kk : Int) != (kk : Int)) = false := by simp
            have t3 : (((n - kk : Nat) : Int) != (n : Int) - (kk : Int)) = false := by rw [bne_eq_false_iff_eq]; omega
            go_wp2_with fail
            go_loopw [11, 12] (fun rn i wr => ∃ j : Nat, j ≤ n ∧ i = .int .i64 j ∧ rn = .int .i64 (pre V j) ∧ Hid (Below w6.heap.size w6 wr)) (fun _ i _ => n - (intOf i).toNat)
            case atStart => exact ⟨0, Nat.zero_le _, rfl, rfl, Below.refl _ _⟩
            case round =>
              obtain ⟨j, hj, rfl, rfl, HX⟩ := hrel
              by_cases hlt : j < n
              · obtain ⟨b, o, hx, c0⟩ := (HO.out.keep (chainB HB.out HX.out (Nat.le_refl _))).cell j hlt
                obtain ⟨b2, o2, hx2, c1⟩ := (HV.out.keep (chainB HB.out HX.out (Nat.le_refl _))).cell j hlt
                obtain ⟨d0, d1⟩ := HJ1.out.keep HX.out j hlt
                subst hx
                subst hx2
                have hsp := sh_pos HW.out hlt
                have hs1 := hsp.1
                have hs2 := hsp.2
                have hb1 := HW.out.bounds hlt
                have hb2 := Hb.out j hlt
                have hps := pre_sh V j
                have hp1 : pre V j + Sh V j ≤ V j := by omega
                have hp2 : V j ≤ pre V j + Sh V j := by omega
                have Hps : Hid (pre V j + Sh V j = V j) := hps
                have hji : (0 : Int) ≤ (j : Int) := by omega
                have hjn : (j : Int) < (n : Int) := by omega
                have t4 : ((pre V j + Sh V j) != V j) = false := by rw [bne_eq_false_iff_eq]; omega
                clear hsp hps
                have hS0 : wr.drew.cell? ⟨q1, j * 2, none⟩ = some (.int .i32 (O j)) ∧ wr.drew.cell? ⟨b, o + j, none⟩ = some (.int .i32 (O j)) := ⟨d0, c0⟩
                go_wp2_with fail
                go_region_held3 (fun w' => w'.cell? ⟨q1, j * 2, none⟩ = some (.int .i32 (O j)) ∧ w'.cell? ⟨b, o + j, none⟩ = some (.int .i32 (O j)))
                  (first | with_reducible exact hS0 | with_reducible exact hS1)
                  (first
                    | (go_at_call 9; refine (ord_any _ _).mono ?_; rintro e y1 ⟨rfl, hy1⟩; (replace hy1 := undrew hy1); (have hS1 : y1.cell? ⟨q1, j * 2, none⟩ = some (.int .i32 (O j)) ∧ y1.cell? ⟨b, o + j, none⟩ = some (.int .i32 (O j)) := ⟨kept_cell hy1 d0, kept_cell hy1 c0⟩); (have d1y := kept_cell hy1 d1); (have c1y := kept_cell hy1 c1); (have Hy1 : Hid _ := hy1); clear hy1))
                clear hS0 hS1
                go_wp2
                go_roundw
                case rel => exact ⟨j + 1, by omega, by go_num, by rw [pre_succ, Hps.out], chainB HX.out Hy1.out (Nat.le_refl _)⟩
                case measure => simp [intOf]; omega
              · obtain ⟨w7, e7⟩ : ∃ x, x = wr := ⟨_, rfl⟩
                subst e7
                replace HJ1 : Hid (Ins w7 q1 n O (Sh V)) := HJ1.out.keep HX.out
                replace HJ2 : Hid (Ins w7 q2 kk O (Sh V)) := HJ2.out.keep HX.out
                replace HJ3 : Hid (Ins w7 q3 (n - kk) (fun j => O (kk + j)) (Sh (fun j => V (kk + j)))) := HJ3.out.keep HX.out
                replace HB : Hid (Below w.heap.size w w7) := chainB HB.out HX.out (Nat.le_refl _)
                clear HX
                go_wp2_with fail
                go_loopw [13] (fun i wr => ∃ j nq : Nat, j ≤ kk ∧ i = .int .i64 j ∧ wr = w7.drewN nq) (fun i _ => kk - (intOf i).toNat)
                case atStart => exact ⟨0, 0, Nat.zero_le _, rfl, rfl⟩
                case round =>
                  obtain ⟨j2, nq, hj2, rfl, rfl⟩ := hrel
                  by_cases hlt2 : j2 < kk
                  · obtain ⟨d0, d1⟩ := HJ1.out j2 (by omega)
                    obtain ⟨e0, e1⟩ := HJ2.out j2 hlt2
                    have b1 : (j2 : Int) < (n : Int) := by omega
                    have b2 : (j2 : Int) < (kk : Int) := by omega
                    go_wp2_with fail
                    go_quiet (fail)
                    go_wp2
                    go_roundw
                    case rel => exact ⟨j2 + 1, _, by omega, by go_num, rfl⟩
                    case measure => simp [intOf]; omega
                  · go_wp2_with fail
                    go_loopw [14] (fun i wr => ∃ j nq : Nat, j ≤ n - kk ∧ i = .int .i64 j ∧ wr = w7.drewN nq) (fun i _ => n - kk - (intOf i).toNat)
                    case atStart => exact ⟨0, _, Nat.zero_le _, rfl, rfl⟩
                    case round =>
                      obtain ⟨j3, nr, hj3, rfl, rfl⟩ := hrel
                      by_cases hlt3 : j3 < n - kk
                      · obtain ⟨d0, d1⟩ := HJ1.out (kk + j3) (by omega)
                        obtain ⟨e0, e1⟩ := HJ3.out j3 hlt3
                        have b1 : (kk : Int) + (j3 : Int) < (n : Int) := by omega
                        have b2 : (j3 : Int) < ((n - kk : Nat) : Int) := by omega
                        have b3 : (j3 : Int) < (n : Int) - (kk : Int) := by omega
                        have hsp := (sh_pos HW.out (i := kk + j3) (by omega)).1
                        by_cases h0 : j3 = 0
                        · have hq : ((j3 : Int) == 0) = true := by simpa using h0
                          by_cases hk0 : 0 < kk
                          · have hk1 : (0 : Int) < (kk : Int) := by omega
                            obtain ⟨b, o, hx, c1⟩ := (HV.out.keep HB.out).cell (kk - 1) (by omega)
                            subst hx
                            rw [h0, cut_sh0, ← h0] at e1
                            have hsc := sh_cut V kk hk0
                            have hA1 : Sh V (kk + j3) + V (kk - 1) ≤ V kk := by rw [h0]; simp only [Nat.add_zero]; omega
                            have hA2 : V kk ≤ Sh V (kk + j3) + V (kk - 1) := by rw [h0]; simp only [Nat.add_zero]; omega
                            have hv1 := HW.out.bounds (i := kk) (by omega)
                            have hv2 := Hb.out kk (by omega)
                            have t4 : (V kk != Sh V (kk + j3) + V (kk - 1)) = false := by rw [bne_eq_false_iff_eq]; omega
                            have b4 : (kk : Int) - 1 < (n : Int) := by omega
                            clear hsc h0
                            go_wp2_with fail
                            go_quiet (fail)
                            go_wp2
                            go_roundw
                            case rel => exact ⟨j3 + 1, _, by omega, by go_num, rfl⟩
                            case measure => simp [intOf]; omega
                          · have hk1 : ¬ (0 : Int) < (kk : Int) := by omega
                            have hkz : kk = 0 := by omega
                            have e2 : Sh (fun j => V (kk + j)) j3 = Sh V (kk + j3) := by rw [h0, cut_sh0, hkz, Nat.zero_add, sh_zero]
                            rw [e2] at e1
                            clear e2 h0 hkz
                            go_wp2_with fail
                            go_quiet (fail)
                            go_wp2
                            go_roundw
                            case rel => exact ⟨j3 + 1, _, by omega, by go_num, rfl⟩
                            case measure => simp [intOf]; omega
                        · have hq : ((j3 : Int) == 0) = false := by simpa using h0
                          rw [cut_sh V kk j3 (by omega)] at e1
                          clear h0
                          go_wp2_with fail
                          go_quiet (fail)
                          go_wp2
                          go_roundw
                          case rel => exact ⟨j3 + 1, _, by omega, by go_num, rfl⟩
                          case measure => simp [intOf]; omega
                      · go_wp2
                        go_ret
                        exact ⟨rfl, below_drewN HB.out _⟩
          · go_wp2
            go_ret
            exact ⟨rfl, Below.refl _ _⟩
        · go_wp2
          go_ret
          exact ⟨rfl, Below.refl _ _⟩
      · have h3' : ((n : Int) != (m : Int)) = true := by rw [bne_iff_ne]; omega
        go_wp2
        go_ret
        exact ⟨rfl, Below.refl _ _⟩
    · go_wp2
      go_ret
      exact ⟨rfl, Below.refl _ _⟩
  · go_wp2
    go_ret
    exact ⟨rfl, Below.refl _ _⟩
end Go.Proofs.Qxb6627983a
