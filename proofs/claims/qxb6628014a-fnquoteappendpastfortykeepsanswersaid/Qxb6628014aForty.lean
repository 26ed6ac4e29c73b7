/-
  THE WALK of zzFortyFirstStart (6), seat b6628014a.
-/
import Derived.Test.Qxb6628014aStep
import Derived.Test.Qxb6628014aQuote
namespace Go.Proofs.Qxb6628014a
open Go.RowKit

/-- What zzFortyFirstStart answers. -/
def Forty (s : ByteArray) : Int := if P s 40 < s.size then (P s 40 : Nat) else -1
theorem forty_long (s : ByteArray) (h : P s 40 < s.size) : Forty s = (P s 40 : Nat) := by unfold Forty; rw [if_pos h]
theorem forty_short (s : ByteArray) (h : ¬ P s 40 < s.size) : Forty s = -1 := by unfold Forty; rw [if_neg h]

set_option maxHeartbeats 2000000 in
set_option maxRecDepth 100000 in
theorem forty_any (s : ByteArray) (w : World) (hs : s.size ≤ 1048576) :
    Calls Try.prog 6 #[.string s] w fun e w' => e = .returned (.int .i64 (Forty s)) ∧ w' = w := by
  go_enter Try.func6, Try.ntmps6
  go_wp2_with fail
  go_loop [3, 4] (fun n i => ∃ c : Nat, c ≤ 40 ∧ n = .int .i64 c ∧ i = .int .i64 (P s c : Nat)) (fun _ i => s.size - (intOf i).toNat)
  case atStart => exact ⟨0, by omega, rfl, rfl⟩
  case round =>
    obtain ⟨c, hc, rfl, rfl⟩ := hrel
    by_cases hp : P s c < s.size
    · by_cases h4 : c = 40
      · have HQ : Hid (Forty s = (P s c : Nat)) := by rw [h4]; exact forty_long s (by rw [← h4]; exact hp)
        have hq : ((c : Int) == 40) = true := by rw [beq_iff_eq]; omega
        clear h4
        go_wp2
        go_ret
        exact ⟨by rw [HQ.out]; rfl, rfl⟩
      · have hq : ((c : Int) == 40) = false := by rw [beq_eq_false_iff_ne]; omega
        have hw1 := (wd_pos s (P s c)).1
        have hw4 := (wd_pos s (P s c)).2
        have HP : Hid (P s (c + 1) = P s c + wd s (P s c)) := P_succ s c
        go_wp2_with fail
        refine (step_any s (P s c) w (by omega) hp).mono ?_
        rintro e w' ⟨rfl, hw⟩
        subst w'
        go_wp2
        go_round
        case rel => exact ⟨c + 1, by omega, by go_num, by rw [HP.out]; go_num⟩
        case measure => simp [intOf]; omega
    · have HQ : Hid (Forty s = -1) := forty_short s (by have := P_mono s hc; omega)
      go_wp2
      go_ret
      exact ⟨by rw [HQ.out]; rfl, rfl⟩
end Go.Proofs.Qxb6628014a
