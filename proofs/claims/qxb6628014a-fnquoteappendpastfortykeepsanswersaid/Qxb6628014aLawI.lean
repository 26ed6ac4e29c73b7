/-
  THE SECOND LAW's WALK of seat b6628014a (function 4, FnQuoteAppendPastFortyKeepsAnswer).
-/
import Derived.Test.Qxb6628014aForty
namespace Go.Proofs.Qxb6628014a
open Go.RowKit

set_option maxHeartbeats 2000000 in
set_option maxRecDepth 100000 in
theorem lawI (s t : ByteArray) (w : World) (hs : s.size ≤ maxLen) (ht : t.size ≤ maxLen) :
    Calls Try.prog 4 #[.string s, .string t] w fun e w' => e = .returned (.bool true) ∧ Grown w w' := by
  have Hs : Hid (s.size ≤ maxLen) := hs
  have Ht : Hid (t.size ≤ maxLen) := ht
  unfold maxLen at hs ht
  go_enter Try.func4, Try.ntmps4
  go_wp2_with fail
  refine (bytes8 s t w Hs.out Ht.out).mono ?_
  rintro e w' ⟨r, rfl, hw, hr⟩
  subst w'
  cases r with
  | false =>
    go_wp2
    go_ret
    exact ⟨rfl, Grown.refl _⟩
  | true =>
  have hsz := hr rfl
  clear hr
  by_cases h1 : s.size ≤ 524288
  · by_cases h2 : t.size ≤ 524288
    · by_cases hp : P s 40 < s.size
      · have hz := size_cut s (P s 40) (by omega)
        have hst : (s ++ t).size ≤ 1048576 := by rw [ByteArray.size_append]; exact hsz
        have Hst : Hid ((s ++ t).size ≤ 1048576) := hst
        clear hst
        go_wp2_with fail
        refine (forty_any s w (by omega)).mono ?_
        rintro e w' ⟨rfl, hw⟩
        subst w'
        rw [forty_long s hp]
        go_wp2_with fail
        refine (quote_any s w (by omega)).mono ?_
        rintro e w1 ⟨rfl, hg1⟩
        have HG : Hid (Grown w w1) := hg1
        clear hg1
        rw [quo_long s hp]
        by_cases h3 : s.size - P s 40 < 3
        · go_wp2
          go_ret
          exact ⟨rfl, HG.out⟩
        · have HQ2 : Hid (Quo (s ++ t) = ⟨#[39]⟩ ++ s.extract 0 (P s 40) ++ ⟨#[46, 46, 46, 39]⟩) := quo_app s t (by omega)
          go_wp2_with fail
          refine (quote_any (s ++ t) w1 Hst.out).mono ?_
          rintro e w2 ⟨rfl, hg2⟩
          replace HG : Hid (Grown w w2) := grown_trans HG.out hg2
          clear hg2
          rw [HQ2.out]
          go_wp2
          go_ret
          exact ⟨rfl, HG.out⟩
      · go_wp2_with fail
        refine (forty_any s w (by omega)).mono ?_
        rintro e w' ⟨rfl, hw⟩
        subst w'
        rw [forty_short s hp]
        go_wp2_with fail
        refine (quote_any s w (by omega)).mono ?_
        rintro e w1 ⟨rfl, hg1⟩
        have HG : Hid (Grown w w1) := hg1
        clear hg1
        rw [quo_short s hp]
        go_wp2
        go_ret
        exact ⟨rfl, HG.out⟩
    · go_wp2
      go_ret
      exact ⟨rfl, Grown.refl _⟩
  · go_wp2
    go_ret
    exact ⟨rfl, Grown.refl _⟩
end Go.Proofs.Qxb6628014a
