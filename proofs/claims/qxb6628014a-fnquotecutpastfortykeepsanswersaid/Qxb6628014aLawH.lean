/-
  THE FIRST LAW's WALK of seat b6628014a (function 3, FnQuoteCutPastFortyKeepsAnswer).
-/
import Derived.Test.Qxb6628014aForty
import Derived.Deep.RegionHeld3
namespace Go.Proofs.Qxb6628014a
open Go.RowKit

theorem grown_drew {a b : World} (h : Grown a.drew b) : Grown a b := h

set_option maxHeartbeats 2000000 in
set_option maxRecDepth 100000 in
theorem lawH (s : ByteArray) (j : Int) (w : World) (hs : s.size ≤ maxLen) :
    Calls Try.prog 3 #[.string s, .int .i64 j] w fun e w' => e = .returned (.bool true) ∧ Grown w w' := by
  have Hs : Hid (s.size ≤ maxLen) := hs
  unfold maxLen at hs
  go_enter Try.func3, Try.ntmps3
  go_wp2_with fail
  refine (bytes5 s j w Hs.out).mono ?_
  rintro e w' ⟨r, rfl, hw, hr⟩
  subst w'
  cases r with
  | false =>
    go_wp2
    go_ret
    exact ⟨rfl, Grown.refl _⟩
  | true =>
  have hsz := hr rfl
  clear hr
  by_cases h1 : 0 ≤ j
  · by_cases h2 : j ≤ s.size
    · obtain ⟨jj, rfl⟩ := Int.eq_ofNat_of_zero_le h1
      have hjs : jj ≤ s.size := by omega
      by_cases hp : P s 40 < s.size
      · have hz := size_cut s (P s 40) (by omega)
        have hz2 := size_cut s jj hjs
        go_wp2_with fail
        refine (forty_any s w hsz).mono ?_
        rintro e w' ⟨rfl, hw⟩
        subst w'
        rw [forty_long s hp]
        go_wp2_with fail
        refine (quote_any s w hsz).mono ?_
        rintro e w1 ⟨rfl, hg1⟩
        have HG : Hid (Grown w w1) := hg1
        clear hg1
        rw [quo_long s hp]
        have HQ2 : Hid (Quo (s.extract 0 (P s 40)) = ⟨#[39]⟩ ++ s.extract 0 (P s 40) ++ ⟨#[39]⟩) := quo_self s hp
        have hb1 : (0 : Int) ≤ (P s 40 : Int) := by omega
        have hb2 : (P s 40 : Int) ≤ (s.size : Int) := by omega
        have hb3 : P s 40 ≤ s.size := by omega
        have hb4 : ¬ 9223372036854775807 < 1 + P s 40 := by omega
        have hb5 : ¬ 9223372036854775807 < 1 + P s 40 + 1 := by omega
        have hb6 : 1 + P s 40 ≤ 9223372036854775807 := by omega
        have hb7 : 1 + P s 40 + 1 ≤ 9223372036854775807 := by omega
        go_wp2_with fail
        go_region_held3 (fun _ => True)
          (exact trivial)
          (first
            | (go_at_call 7; refine (quote_any _ _ (by omega)).mono ?_; rintro e y1 ⟨rfl, hy1⟩; (have HY : Hid _ := hy1); clear hy1; rw [HQ2.out]))
        have HK : Hid (Grown w y1) := grown_trans HG.out (grown_drew HY.out)
        clear HY HG
        by_cases h5 : P s 40 < jj
        · have HQ3 : Hid (Quo (s.extract 0 jj) = ⟨#[39]⟩ ++ s.extract 0 (P s 40) ++ ⟨#[46, 46, 46, 39]⟩) := quo_cut s jj h5 hjs
          go_wp2_with fail
          refine (quote_any (s.extract 0 jj) y1 (by omega)).mono ?_
          rintro e w2 ⟨rfl, hg2⟩
          have HG2 : Hid (Grown w w2) := grown_trans HK.out hg2
          clear hg2
          rw [HQ3.out]
          go_wp2
          go_ret
          exact ⟨rfl, HG2.out⟩
        · go_wp2
          go_ret
          exact ⟨rfl, HK.out⟩
      · go_wp2_with fail
        refine (forty_any s w hsz).mono ?_
        rintro e w' ⟨rfl, hw⟩
        subst w'
        rw [forty_short s hp]
        go_wp2_with fail
        refine (quote_any s w hsz).mono ?_
        rintro e w1 ⟨rfl, hg1⟩
        have HG : Hid (Grown w w1) := hg1
        clear hg1
        rw [quo_short s hp]
        go_wp2
        go_ret
        exact ⟨rfl, HG.out⟩
    · go_wp2
      go_ret
      exact ⟨rfl, Grown.refl _⟩
  · go_wp2
    go_ret
    exact ⟨rfl, Grown.refl _⟩
end Go.Proofs.Qxb6628014a
