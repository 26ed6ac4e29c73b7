/-
  THE WALK of zzStepWidth (9), seat b6628014a: it answers the width of the model's own decoding.
-/
import Derived.Test.Qxb6628014aRows
import Derived.Test.Qxb6628014aLead
import Derived.WalkKit
import Derived.WalkSpells
import Derived.WalkLawsBesides
namespace Go.Proofs.Qxb6628014a
open Go.RowKit

set_option maxHeartbeats 2000000 in
set_option maxRecDepth 100000 in
theorem stepC (s : ByteArray) (i : Nat) (w : World) (hs : s.size ≤ 9223372036854775807) (hin : i < s.size) (h1 : 194 ≤ g s i) (h2 : g s i ≤ 223) :
    Calls Try.prog 9 #[.string s, .int .i64 i] w fun e w' => e = .returned (.int .i64 (wd s i : Nat)) ∧ w' = w := by
  have HL : Hid (Lead (g s i) 2 128 191) := leadC h1 h2
  have hc := g_at s i hin
  have c1 : 194 ≤ (s[i].toNat : Int) := by omega
  have c2 : (s[i].toNat : Int) ≤ 223 := by omega
  have q224 : ((s[i].toNat : Int) == 224) = false := by rw [beq_eq_false_iff_ne]; omega
  have q238 : ((s[i].toNat : Int) == 238) = false := by rw [beq_eq_false_iff_ne]; omega
  have q239 : ((s[i].toNat : Int) == 239) = false := by rw [beq_eq_false_iff_ne]; omega
  have q237 : ((s[i].toNat : Int) == 237) = false := by rw [beq_eq_false_iff_ne]; omega
  have q240 : ((s[i].toNat : Int) == 240) = false := by rw [beq_eq_false_iff_ne]; omega
  have q244 : ((s[i].toNat : Int) == 244) = false := by rw [beq_eq_false_iff_ne]; omega
  clear hc h1 h2
  go_enter Try.func9, Try.ntmps9
  by_cases hr : s.size - i < 2
  · have e0 : Hid (wd s i = 1) := lead_not HL.out (fun k => by omega)
    go_wp2
    go_ret
    exact ⟨by rw [e0.out]; rfl, rfl⟩
  · have hx1 : i + 1 < s.size := by omega
    have hg1 := g_at s (i + 1) hx1
    have Hg1 : Hid (g s (i + 1) = s[i + 1].toNat) := hg1
    by_cases hb : (s[i + 1].toNat : Int) < 128
    · have e0 : Hid (wd s i = 1) := lead_not HL.out (fun k => by omega)
      clear hg1
      go_wp2
      go_ret
      exact ⟨by rw [e0.out]; rfl, rfl⟩
    · by_cases hb2 : (s[i + 1].toNat : Int) ≤ 191
      · have HB : Hid (128 ≤ g s (i + 1) ∧ g s (i + 1) ≤ 191) := ⟨by omega, by omega⟩
        clear hg1
        go_wp2_with fail
        go_loop [9, 10] (fun b m => ∃ j : Nat, 2 ≤ j ∧ j ≤ 2 ∧ m = .int .i64 j ∧ Hid (∀ t, 2 ≤ t → t < j → 128 ≤ g s (i + t) ∧ g s (i + t) ≤ 191)) (fun _ m => 2 - (intOf m).toNat)
        case atStart => exact ⟨2, by omega, by omega, rfl, fun t _ _ => by omega⟩
        case round =>
          obtain ⟨j, hj1, hj2, rfl, HC⟩ := hrel
          have hlt : ¬ j < 2 := by omega
          have e0 : Hid (wd s i = 2) := lead_all HL.out ⟨by omega, HB.out.1, HB.out.2, fun t h3 h4 => HC.out t h3 (by omega)⟩
          go_wp2
          go_ret
          exact ⟨by rw [e0.out]; rfl, rfl⟩
      · have e0 : Hid (wd s i = 1) := lead_not HL.out (fun k => by omega)
        clear hg1
        go_wp2
        go_ret
        exact ⟨by rw [e0.out]; rfl, rfl⟩

set_option maxHeartbeats 2000000 in
set_option maxRecDepth 100000 in
theorem stepD (s : ByteArray) (i : Nat) (w : World) (hs : s.size ≤ 9223372036854775807) (hin : i < s.size) (h1 : 224 ≤ g s i) (h2 : g s i ≤ 224) :
    Calls Try.prog 9 #[.string s, .int .i64 i] w fun e w' => e = .returned (.int .i64 (wd s i : Nat)) ∧ w' = w := by
  have HL : Hid (Lead (g s i) 3 160 191) := leadD h1 h2
  have hc := g_at s i hin
  have c1 : 224 ≤ (s[i].toNat : Int) := by omega
  have c2 : (s[i].toNat : Int) ≤ 224 := by omega
  have q224 : ((s[i].toNat : Int) == 224) = true := by rw [beq_iff_eq]; omega
  have q238 : ((s[i].toNat : Int) == 238) = false := by rw [beq_eq_false_iff_ne]; omega
  have q239 : ((s[i].toNat : Int) == 239) = false := by rw [beq_eq_false_iff_ne]; omega
  have q237 : ((s[i].toNat : Int) == 237) = false := by rw [beq_eq_false_iff_ne]; omega
  have q240 : ((s[i].toNat : Int) == 240) = false := by rw [beq_eq_false_iff_ne]; omega
  have q244 : ((s[i].toNat : Int) == 244) = false := by rw [beq_eq_false_iff_ne]; omega
  clear hc h1 h2
  go_enter Try.func9, Try.ntmps9
  by_cases hr : s.size - i < 3
  · have e0 : Hid (wd s i = 1) := lead_not HL.out (fun k => by omega)
    go_wp2
    go_ret
    exact ⟨by rw [e0.out]; rfl, rfl⟩
  · have hx1 : i + 1 < s.size := by omega
    have hg1 := g_at s (i + 1) hx1
    have Hg1 : Hid (g s (i + 1) = s[i + 1].toNat) := hg1
    by_cases hb : (s[i + 1].toNat : Int) < 160
    · have e0 : Hid (wd s i = 1) := lead_not HL.out (fun k => by omega)
      clear hg1
      go_wp2
      go_ret
      exact ⟨by rw [e0.out]; rfl, rfl⟩
    · by_cases hb2 : (s[i + 1].toNat : Int) ≤ 191
      · have HB : Hid (160 ≤ g s (i + 1) ∧ g s (i + 1) ≤ 191) := ⟨by omega, by omega⟩
        clear hg1
        go_wp2_with fail
        go_loop [9, 10] (fun b m => ∃ j : Nat, 2 ≤ j ∧ j ≤ 3 ∧ m = .int .i64 j ∧ Hid (∀ t, 2 ≤ t → t < j → 128 ≤ g s (i + t) ∧ g s (i + t) ≤ 191)) (fun _ m => 3 - (intOf m).toNat)
        case atStart => exact ⟨2, by omega, by omega, rfl, fun t _ _ => by omega⟩
        case round =>
          obtain ⟨j, hj1, hj2, rfl, HC⟩ := hrel
          by_cases hlt : j < 3
          · have hx : i + j < s.size := by omega
            have hg := g_at s (i + j) hx
            by_cases hq : (s[i + j].toNat : Int) < 128
            · have e0 : Hid (wd s i = 1) := lead_not HL.out (fun k => by have := k.2.2.2 j hj1 hlt; omega)
              clear hg
              go_wp2
              go_ret
              exact ⟨by rw [e0.out]; rfl, rfl⟩
            · by_cases hq2 : (s[i + j].toNat : Int) ≤ 191
              · have HC2 : Hid (∀ t, 2 ≤ t → t < j + 1 → 128 ≤ g s (i + t) ∧ g s (i + t) ≤ 191) := fun t h3 h4 => by
                  by_cases ht : t = j
                  · subst ht
                    omega
                  · exact HC.out t h3 (by omega)
                clear hg
                go_wp2
                go_round
                case rel => exact ⟨j + 1, by omega, by omega, by go_num, HC2⟩
                case measure => simp [intOf]; omega
              · have e0 : Hid (wd s i = 1) := lead_not HL.out (fun k => by have := k.2.2.2 j hj1 hlt; omega)
                clear hg
                go_wp2
                go_ret
                exact ⟨by rw [e0.out]; rfl, rfl⟩
          · have e0 : Hid (wd s i = 3) := lead_all HL.out ⟨by omega, HB.out.1, HB.out.2, fun t h3 h4 => HC.out t h3 (by omega)⟩
            go_wp2
            go_ret
            exact ⟨by rw [e0.out]; rfl, rfl⟩
      · have e0 : Hid (wd s i = 1) := lead_not HL.out (fun k => by omega)
        clear hg1
        go_wp2
        go_ret
        exact ⟨by rw [e0.out]; rfl, rfl⟩

set_option maxHeartbeats 2000000 in
set_option maxRecDepth 100000 in
theorem stepE (s : ByteArray) (i : Nat) (w : World) (hs : s.size ≤ 9223372036854775807) (hin : i < s.size) (h1 : 225 ≤ g s i) (h2 : g s i ≤ 236) :
    Calls Try.prog 9 #[.string s, .int .i64 i] w fun e w' => e = .returned (.int .i64 (wd s i : Nat)) ∧ w' = w := by
  have HL : Hid (Lead (g s i) 3 128 191) := leadE h1 h2
  have hc := g_at s i hin
  have c1 : 225 ≤ (s[i].toNat : Int) := by omega
  have c2 : (s[i].toNat : Int) ≤ 236 := by omega
  have q224 : ((s[i].toNat : Int) == 224) = false := by rw [beq_eq_false_iff_ne]; omega
  have q238 : ((s[i].toNat : Int) == 238) = false := by rw [beq_eq_false_iff_ne]; omega
  have q239 : ((s[i].toNat : Int) == 239) = false := by rw [beq_eq_false_iff_ne]; omega
  have q237 : ((s[i].toNat : Int) == 237) = false := by rw [beq_eq_false_iff_ne]; omega
  have q240 : ((s[i].toNat : Int) == 240) = false := by rw [beq_eq_false_iff_ne]; omega
  have q244 : ((s[i].toNat : Int) == 244) = false := by rw [beq_eq_false_iff_ne]; omega
  clear hc h1 h2
  go_enter Try.func9, Try.ntmps9
  by_cases hr : s.size - i < 3
  · have e0 : Hid (wd s i = 1) := lead_not HL.out (fun k => by omega)
    go_wp2
    go_ret
    exact ⟨by rw [e0.out]; rfl, rfl⟩
  · have hx1 : i + 1 < s.size := by omega
    have hg1 := g_at s (i + 1) hx1
    have Hg1 : Hid (g s (i + 1) = s[i + 1].toNat) := hg1
    by_cases hb : (s[i + 1].toNat : Int) < 128
    · have e0 : Hid (wd s i = 1) := lead_not HL.out (fun k => by omega)
      clear hg1
      go_wp2
      go_ret
      exact ⟨by rw [e0.out]; rfl, rfl⟩
    · by_cases hb2 : (s[i + 1].toNat : Int) ≤ 191
      · have HB : Hid (128 ≤ g s (i + 1) ∧ g s (i + 1) ≤ 191) := ⟨by omega, by omega⟩
        clear hg1
        go_wp2_with fail
        go_loop [9, 10] (fun b m => ∃ j : Nat, 2 ≤ j ∧ j ≤ 3 ∧ m = .int .i64 j ∧ Hid (∀ t, 2 ≤ t → t < j → 128 ≤ g s (i + t) ∧ g s (i + t) ≤ 191)) (fun _ m => 3 - (intOf m).toNat)
        case atStart => exact ⟨2, by omega, by omega, rfl, fun t _ _ => by omega⟩
        case round =>
          obtain ⟨j, hj1, hj2, rfl, HC⟩ := hrel
          by_cases hlt : j < 3
          · have hx : i + j < s.size := by omega
            have hg := g_at s (i + j) hx
            by_cases hq : (s[i + j].toNat : Int) < 128
            · have e0 : Hid (wd s i = 1) := lead_not HL.out (fun k => by have := k.2.2.2 j hj1 hlt; omega)
              clear hg
              go_wp2
              go_ret
              exact ⟨by rw [e0.out]; rfl, rfl⟩
            · by_cases hq2 : (s[i + j].toNat : Int) ≤ 191
              · have HC2 : Hid (∀ t, 2 ≤ t → t < j + 1 → 128 ≤ g s (i + t) ∧ g s (i + t) ≤ 191) := fun t h3 h4 => by
                  by_cases ht : t = j
                  · subst ht
                    omega
                  · exact HC.out t h3 (by omega)
                clear hg
                go_wp2
                go_round
                case rel => exact ⟨j + 1, by omega, by omega, by go_num, HC2⟩
                case measure => simp [intOf]; omega
              · have e0 : Hid (wd s i = 1) := lead_not HL.out (fun k => by have := k.2.2.2 j hj1 hlt; omega)
                clear hg
                go_wp2
                go_ret
                exact ⟨by rw [e0.out]; rfl, rfl⟩
          · have e0 : Hid (wd s i = 3) := lead_all HL.out ⟨by omega, HB.out.1, HB.out.2, fun t h3 h4 => HC.out t h3 (by omega)⟩
            go_wp2
            go_ret
            exact ⟨by rw [e0.out]; rfl, rfl⟩
      · have e0 : Hid (wd s i = 1) := lead_not HL.out (fun k => by omega)
        clear hg1
        go_wp2
        go_ret
        exact ⟨by rw [e0.out]; rfl, rfl⟩

set_option maxHeartbeats 2000000 in
set_option maxRecDepth 100000 in
theorem stepF (s : ByteArray) (i : Nat) (w : World) (hs : s.size ≤ 9223372036854775807) (hin : i < s.size) (h1 : 238 ≤ g s i) (h2 : g s i ≤ 238) :
    Calls Try.prog 9 #[.string s, .int .i64 i] w fun e w' => e = .returned (.int .i64 (wd s i : Nat)) ∧ w' = w := by
  have HL : Hid (Lead (g s i) 3 128 191) := leadF h1 h2
  have hc := g_at s i hin
  have c1 : 238 ≤ (s[i].toNat : Int) := by omega
  have c2 : (s[i].toNat : Int) ≤ 238 := by omega
  have q224 : ((s[i].toNat : Int) == 224) = false := by rw [beq_eq_false_iff_ne]; omega
  have q238 : ((s[i].toNat : Int) == 238) = true := by rw [beq_iff_eq]; omega
  have q239 : ((s[i].toNat : Int) == 239) = false := by rw [beq_eq_false_iff_ne]; omega
  have q237 : ((s[i].toNat : Int) == 237) = false := by rw [beq_eq_false_iff_ne]; omega
  have q240 : ((s[i].toNat : Int) == 240) = false := by rw [beq_eq_false_iff_ne]; omega
  have q244 : ((s[i].toNat : Int) == 244) = false := by rw [beq_eq_false_iff_ne]; omega
  clear hc h1 h2
  go_enter Try.func9, Try.ntmps9
  by_cases hr : s.size - i < 3
  · have e0 : Hid (wd s i = 1) := lead_not HL.out (fun k => by omega)
    go_wp2
    go_ret
    exact ⟨by rw [e0.out]; rfl, rfl⟩
  · have hx1 : i + 1 < s.size := by omega
    have hg1 := g_at s (i + 1) hx1
    have Hg1 : Hid (g s (i + 1) = s[i + 1].toNat) := hg1
    by_cases hb : (s[i + 1].toNat : Int) < 128
    · have e0 : Hid (wd s i = 1) := lead_not HL.out (fun k => by omega)
      clear hg1
      go_wp2
      go_ret
      exact ⟨by rw [e0.out]; rfl, rfl⟩
    · by_cases hb2 : (s[i + 1].toNat : Int) ≤ 191
      · have HB : Hid (128 ≤ g s (i + 1) ∧ g s (i + 1) ≤ 191) := ⟨by omega, by omega⟩
        clear hg1
        go_wp2_with fail
        go_loop [9, 10] (fun b m => ∃ j : Nat, 2 ≤ j ∧ j ≤ 3 ∧ m = .int .i64 j ∧ Hid (∀ t, 2 ≤ t → t < j → 128 ≤ g s (i + t) ∧ g s (i + t) ≤ 191)) (fun _ m => 3 - (intOf m).toNat)
        case atStart => exact ⟨2, by omega, by omega, rfl, fun t _ _ => by omega⟩
        case round =>
          obtain ⟨j, hj1, hj2, rfl, HC⟩ := hrel
          by_cases hlt : j < 3
          · have hx : i + j < s.size := by omega
            have hg := g_at s (i + j) hx
            by_cases hq : (s[i + j].toNat : Int) < 128
            · have e0 : Hid (wd s i = 1) := lead_not HL.out (fun k => by have := k.2.2.2 j hj1 hlt; omega)
              clear hg
              go_wp2
              go_ret
              exact ⟨by rw [e0.out]; rfl, rfl⟩
            · by_cases hq2 : (s[i + j].toNat : Int) ≤ 191
              · have HC2 : Hid (∀ t, 2 ≤ t → t < j + 1 → 128 ≤ g s (i + t) ∧ g s (i + t) ≤ 191) := fun t h3 h4 => by
                  by_cases ht : t = j
                  · subst ht
                    omega
                  · exact HC.out t h3 (by omega)
                clear hg
                go_wp2
                go_round
                case rel => exact ⟨j + 1, by omega, by omega, by go_num, HC2⟩
                case measure => simp [intOf]; omega
              · have e0 : Hid (wd s i = 1) := lead_not HL.out (fun k => by have := k.2.2.2 j hj1 hlt; omega)
                clear hg
                go_wp2
                go_ret
                exact ⟨by rw [e0.out]; rfl, rfl⟩
          · have e0 : Hid (wd s i = 3) := lead_all HL.out ⟨by omega, HB.out.1, HB.out.2, fun t h3 h4 => HC.out t h3 (by omega)⟩
            go_wp2
            go_ret
            exact ⟨by rw [e0.out]; rfl, rfl⟩
      · have e0 : Hid (wd s i = 1) := lead_not HL.out (fun k => by omega)
        clear hg1
        go_wp2
        go_ret
        exact ⟨by rw [e0.out]; rfl, rfl⟩

set_option maxHeartbeats 2000000 in
set_option maxRecDepth 100000 in
theorem stepG (s : ByteArray) (i : Nat) (w : World) (hs : s.size ≤ 9223372036854775807) (hin : i < s.size) (h1 : 239 ≤ g s i) (h2 : g s i ≤ 239) :
    Calls Try.prog 9 #[.string s, .int .i64 i] w fun e w' => e = .returned (.int .i64 (wd s i : Nat)) ∧ w' = w := by
  have HL : Hid (Lead (g s i) 3 128 191) := leadG h1 h2
  have hc := g_at s i hin
  have c1 : 239 ≤ (s[i].toNat : Int) := by omega
  have c2 : (s[i].toNat : Int) ≤ 239 := by omega
  have q224 : ((s[i].toNat : Int) == 224) = false := by rw [beq_eq_false_iff_ne]; omega
  have q238 : ((s[i].toNat : Int) == 238) = false := by rw [beq_eq_false_iff_ne]; omega
  have q239 : ((s[i].toNat : Int) == 239) = true := by rw [beq_iff_eq]; omega
  have q237 : ((s[i].toNat : Int) == 237) = false := by rw [beq_eq_false_iff_ne]; omega
  have q240 : ((s[i].toNat : Int) == 240) = false := by rw [beq_eq_false_iff_ne]; omega
  have q244 : ((s[i].toNat : Int) == 244) = false := by rw [beq_eq_false_iff_ne]; omega
  clear hc h1 h2
  go_enter Try.func9, Try.ntmps9
  by_cases hr : s.size - i < 3
  · have e0 : Hid (wd s i = 1) := lead_not HL.out (fun k => by omega)
    go_wp2
    go_ret
    exact ⟨by rw [e0.out]; rfl, rfl⟩
  · have hx1 : i + 1 < s.size := by omega
    have hg1 := g_at s (i + 1) hx1
    have Hg1 : Hid (g s (i + 1) = s[i + 1].toNat) := hg1
    by_cases hb : (s[i + 1].toNat : Int) < 128
    · have e0 : Hid (wd s i = 1) := lead_not HL.out (fun k => by omega)
      clear hg1
      go_wp2
      go_ret
      exact ⟨by rw [e0.out]; rfl, rfl⟩
    · by_cases hb2 : (s[i + 1].toNat : Int) ≤ 191
      · have HB : Hid (128 ≤ g s (i + 1) ∧ g s (i + 1) ≤ 191) := ⟨by omega, by omega⟩
        clear hg1
        go_wp2_with fail
        go_loop [9, 10] (fun b m => ∃ j : Nat, 2 ≤ j ∧ j ≤ 3 ∧ m = .int .i64 j ∧ Hid (∀ t, 2 ≤ t → t < j → 128 ≤ g s (i + t) ∧ g s (i + t) ≤ 191)) (fun _ m => 3 - (intOf m).toNat)
        case atStart => exact ⟨2, by omega, by omega, rfl, fun t _ _ => by omega⟩
        case round =>
          obtain ⟨j, hj1, hj2, rfl, HC⟩ := hrel
          by_cases hlt : j < 3
          · have hx : i + j < s.size := by omega
            have hg := g_at s (i + j) hx
            by_cases hq : (s[i + j].toNat : Int) < 128
            · have e0 : Hid (wd s i = 1) := lead_not HL.out (fun k => by have := k.2.2.2 j hj1 hlt; omega)
              clear hg
              go_wp2
              go_ret
              exact ⟨by rw [e0.out]; rfl, rfl⟩
            · by_cases hq2 : (s[i + j].toNat : Int) ≤ 191
              · have HC2 : Hid (∀ t, 2 ≤ t → t < j + 1 → 128 ≤ g s (i + t) ∧ g s (i + t) ≤ 191) := fun t h3 h4 => by
                  by_cases ht : t = j
                  · subst ht
                    omega
                  · exact HC.out t h3 (by omega)
                clear hg
                go_wp2
                go_round
                case rel => exact ⟨j + 1, by omega, by omega, by go_num, HC2⟩
                case measure => simp [intOf]; omega
              · have e0 : Hid (wd s i = 1) := lead_not HL.out (fun k => by have := k.2.2.2 j hj1 hlt; omega)
                clear hg
                go_wp2
                go_ret
                exact ⟨by rw [e0.out]; rfl, rfl⟩
          · have e0 : Hid (wd s i = 3) := lead_all HL.out ⟨by omega, HB.out.1, HB.out.2, fun t h3 h4 => HC.out t h3 (by omega)⟩
            go_wp2
            go_ret
            exact ⟨by rw [e0.out]; rfl, rfl⟩
      · have e0 : Hid (wd s i = 1) := lead_not HL.out (fun k => by omega)
        clear hg1
        go_wp2
        go_ret
        exact ⟨by rw [e0.out]; rfl, rfl⟩

set_option maxHeartbeats 2000000 in
set_option maxRecDepth 100000 in
theorem stepH (s : ByteArray) (i : Nat) (w : World) (hs : s.size ≤ 9223372036854775807) (hin : i < s.size) (h1 : 237 ≤ g s i) (h2 : g s i ≤ 237) :
    Calls Try.prog 9 #[.string s, .int .i64 i] w fun e w' => e = .returned (.int .i64 (wd s i : Nat)) ∧ w' = w := by
  have HL : Hid (Lead (g s i) 3 128 159) := leadH h1 h2
  have hc := g_at s i hin
  have c1 : 237 ≤ (s[i].toNat : Int) := by omega
  have c2 : (s[i].toNat : Int) ≤ 237 := by omega
  have q224 : ((s[i].toNat : Int) == 224) = false := by rw [beq_eq_false_iff_ne]; omega
  have q238 : ((s[i].toNat : Int) == 238) = false := by rw [beq_eq_false_iff_ne]; omega
  have q239 : ((s[i].toNat : Int) == 239) = false := by rw [beq_eq_false_iff_ne]; omega
  have q237 : ((s[i].toNat : Int) == 237) = true := by rw [beq_iff_eq]; omega
  have q240 : ((s[i].toNat : Int) == 240) = false := by rw [beq_eq_false_iff_ne]; omega
  have q244 : ((s[i].toNat : Int) == 244) = false := by rw [beq_eq_false_iff_ne]; omega
  clear hc h1 h2
  go_enter Try.func9, Try.ntmps9
  by_cases hr : s.size - i < 3
  · have e0 : Hid (wd s i = 1) := lead_not HL.out (fun k => by omega)
    go_wp2
    go_ret
    exact ⟨by rw [e0.out]; rfl, rfl⟩
  · have hx1 : i + 1 < s.size := by omega
    have hg1 := g_at s (i + 1) hx1
    have Hg1 : Hid (g s (i + 1) = s[i + 1].toNat) := hg1
    by_cases hb : (s[i + 1].toNat : Int) < 128
    · have e0 : Hid (wd s i = 1) := lead_not HL.out (fun k => by omega)
      clear hg1
      go_wp2
      go_ret
      exact ⟨by rw [e0.out]; rfl, rfl⟩
    · by_cases hb2 : (s[i + 1].toNat : Int) ≤ 159
      · have HB : Hid (128 ≤ g s (i + 1) ∧ g s (i + 1) ≤ 159) := ⟨by omega, by omega⟩
        clear hg1
        go_wp2_with fail
        go_loop [9, 10] (fun b m => ∃ j : Nat, 2 ≤ j ∧ j ≤ 3 ∧ m = .int .i64 j ∧ Hid (∀ t, 2 ≤ t → t < j → 128 ≤ g s (i + t) ∧ g s (i + t) ≤ 191)) (fun _ m => 3 - (intOf m).toNat)
        case atStart => exact ⟨2, by omega, by omega, rfl, fun t _ _ => by omega⟩
        case round =>
          obtain ⟨j, hj1, hj2, rfl, HC⟩ := hrel
          by_cases hlt : j < 3
          · have hx : i + j < s.size := by omega
            have hg := g_at s (i + j) hx
            by_cases hq : (s[i + j].toNat : Int) < 128
            · have e0 : Hid (wd s i = 1) := lead_not HL.out (fun k => by have := k.2.2.2 j hj1 hlt; omega)
              clear hg
              go_wp2
              go_ret
              exact ⟨by rw [e0.out]; rfl, rfl⟩
            · by_cases hq2 : (s[i + j].toNat : Int) ≤ 191
              · have HC2 : Hid (∀ t, 2 ≤ t → t < j + 1 → 128 ≤ g s (i + t) ∧ g s (i + t) ≤ 191) := fun t h3 h4 => by
                  by_cases ht : t = j
                  · subst ht
                    omega
                  · exact HC.out t h3 (by omega)
                clear hg
                go_wp2
                go_round
                case rel => exact ⟨j + 1, by omega, by omega, by go_num, HC2⟩
                case measure => simp [intOf]; omega
              · have e0 : Hid (wd s i = 1) := lead_not HL.out (fun k => by have := k.2.2.2 j hj1 hlt; omega)
                clear hg
                go_wp2
                go_ret
                exact ⟨by rw [e0.out]; rfl, rfl⟩
          · have e0 : Hid (wd s i = 3) := lead_all HL.out ⟨by omega, HB.out.1, HB.out.2, fun t h3 h4 => HC.out t h3 (by omega)⟩
            go_wp2
            go_ret
            exact ⟨by rw [e0.out]; rfl, rfl⟩
      · have e0 : Hid (wd s i = 1) := lead_not HL.out (fun k => by omega)
        clear hg1
        go_wp2
        go_ret
        exact ⟨by rw [e0.out]; rfl, rfl⟩

set_option maxHeartbeats 2000000 in
set_option maxRecDepth 100000 in
theorem stepI (s : ByteArray) (i : Nat) (w : World) (hs : s.size ≤ 9223372036854775807) (hin : i < s.size) (h1 : 240 ≤ g s i) (h2 : g s i ≤ 240) :
    Calls Try.prog 9 #[.string s, .int .i64 i] w fun e w' => e = .returned (.int .i64 (wd s i : Nat)) ∧ w' = w := by
  have HL : Hid (Lead (g s i) 4 144 191) := leadI h1 h2
  have hc := g_at s i hin
  have c1 : 240 ≤ (s[i].toNat : Int) := by omega
  have c2 : (s[i].toNat : Int) ≤ 240 := by omega
  have q224 : ((s[i].toNat : Int) == 224) = false := by rw [beq_eq_false_iff_ne]; omega
  have q238 : ((s[i].toNat : Int) == 238) = false := by rw [beq_eq_false_iff_ne]; omega
  have q239 : ((s[i].toNat : Int) == 239) = false := by rw [beq_eq_false_iff_ne]; omega
  have q237 : ((s[i].toNat : Int) == 237) = false := by rw [beq_eq_false_iff_ne]; omega
  have q240 : ((s[i].toNat : Int) == 240) = true := by rw [beq_iff_eq]; omega
  have q244 : ((s[i].toNat : Int) == 244) = false := by rw [beq_eq_false_iff_ne]; omega
  clear hc h1 h2
  go_enter Try.func9, Try.ntmps9
  by_cases hr : s.size - i < 4
  · have e0 : Hid (wd s i = 1) := lead_not HL.out (fun k => by omega)
    go_wp2
    go_ret
    exact ⟨by rw [e0.out]; rfl, rfl⟩
  · have hx1 : i + 1 < s.size := by omega
    have hg1 := g_at s (i + 1) hx1
    have Hg1 : Hid (g s (i + 1) = s[i + 1].toNat) := hg1
    by_cases hb : (s[i + 1].toNat : Int) < 144
    · have e0 : Hid (wd s i = 1) := lead_not HL.out (fun k => by omega)
      clear hg1
      go_wp2
      go_ret
      exact ⟨by rw [e0.out]; rfl, rfl⟩
    · by_cases hb2 : (s[i + 1].toNat : Int) ≤ 191
      · have HB : Hid (144 ≤ g s (i + 1) ∧ g s (i + 1) ≤ 191) := ⟨by omega, by omega⟩
        clear hg1
        go_wp2_with fail
        go_loop [9, 10] (fun b m => ∃ j : Nat, 2 ≤ j ∧ j ≤ 4 ∧ m = .int .i64 j ∧ Hid (∀ t, 2 ≤ t → t < j → 128 ≤ g s (i + t) ∧ g s (i + t) ≤ 191)) (fun _ m => 4 - (intOf m).toNat)
        case atStart => exact ⟨2, by omega, by omega, rfl, fun t _ _ => by omega⟩
        case round =>
          obtain ⟨j, hj1, hj2, rfl, HC⟩ := hrel
          by_cases hlt : j < 4
          · have hx : i + j < s.size := by omega
            have hg := g_at s (i + j) hx
            by_cases hq : (s[i + j].toNat : Int) < 128
            · have e0 : Hid (wd s i = 1) := lead_not HL.out (fun k => by have := k.2.2.2 j hj1 hlt; omega)
              clear hg
              go_wp2
              go_ret
              exact ⟨by rw [e0.out]; rfl, rfl⟩
            · by_cases hq2 : (s[i + j].toNat : Int) ≤ 191
              · have HC2 : Hid (∀ t, 2 ≤ t → t < j + 1 → 128 ≤ g s (i + t) ∧ g s (i + t) ≤ 191) := fun t h3 h4 => by
                  by_cases ht : t = j
                  · subst ht
                    omega
                  · exact HC.out t h3 (by omega)
                clear hg
                go_wp2
                go_round
                case rel => exact ⟨j + 1, by omega, by omega, by go_num, HC2⟩
                case measure => simp [intOf]; omega
              · have e0 : Hid (wd s i = 1) := lead_not HL.out (fun k => by have := k.2.2.2 j hj1 hlt; omega)
                clear hg
                go_wp2
                go_ret
                exact ⟨by rw [e0.out]; rfl, rfl⟩
          · have e0 : Hid (wd s i = 4) := lead_all HL.out ⟨by omega, HB.out.1, HB.out.2, fun t h3 h4 => HC.out t h3 (by omega)⟩
            go_wp2
            go_ret
            exact ⟨by rw [e0.out]; rfl, rfl⟩
      · have e0 : Hid (wd s i = 1) := lead_not HL.out (fun k => by omega)
        clear hg1
        go_wp2
        go_ret
        exact ⟨by rw [e0.out]; rfl, rfl⟩

set_option maxHeartbeats 2000000 in
set_option maxRecDepth 100000 in
theorem stepJ (s : ByteArray) (i : Nat) (w : World) (hs : s.size ≤ 9223372036854775807) (hin : i < s.size) (h1 : 241 ≤ g s i) (h2 : g s i ≤ 243) :
    Calls Try.prog 9 #[.string s, .int .i64 i] w fun e w' => e = .returned (.int .i64 (wd s i : Nat)) ∧ w' = w := by
  have HL : Hid (Lead (g s i) 4 128 191) := leadJ h1 h2
  have hc := g_at s i hin
  have c1 : 241 ≤ (s[i].toNat : Int) := by omega
  have c2 : (s[i].toNat : Int) ≤ 243 := by omega
  have q224 : ((s[i].toNat : Int) == 224) = false := by rw [beq_eq_false_iff_ne]; omega
  have q238 : ((s[i].toNat : Int) == 238) = false := by rw [beq_eq_false_iff_ne]; omega
  have q239 : ((s[i].toNat : Int) == 239) = false := by rw [beq_eq_false_iff_ne]; omega
  have q237 : ((s[i].toNat : Int) == 237) = false := by rw [beq_eq_false_iff_ne]; omega
  have q240 : ((s[i].toNat : Int) == 240) = false := by rw [beq_eq_false_iff_ne]; omega
  have q244 : ((s[i].toNat : Int) == 244) = false := by rw [beq_eq_false_iff_ne]; omega
  clear hc h1 h2
  go_enter Try.func9, Try.ntmps9
  by_cases hr : s.size - i < 4
  · have e0 : Hid (wd s i = 1) := lead_not HL.out (fun k => by omega)
    go_wp2
    go_ret
    exact ⟨by rw [e0.out]; rfl, rfl⟩
  · have hx1 : i + 1 < s.size := by omega
    have hg1 := g_at s (i + 1) hx1
    have Hg1 : Hid (g s (i + 1) = s[i + 1].toNat) := hg1
    by_cases hb : (s[i + 1].toNat : Int) < 128
    · have e0 : Hid (wd s i = 1) := lead_not HL.out (fun k => by omega)
      clear hg1
      go_wp2
      go_ret
      exact ⟨by rw [e0.out]; rfl, rfl⟩
    · by_cases hb2 : (s[i + 1].toNat : Int) ≤ 191
      · have HB : Hid (128 ≤ g s (i + 1) ∧ g s (i + 1) ≤ 191) := ⟨by omega, by omega⟩
        clear hg1
        go_wp2_with fail
        go_loop [9, 10] (fun b m => ∃ j : Nat, 2 ≤ j ∧ j ≤ 4 ∧ m = .int .i64 j ∧ Hid (∀ t, 2 ≤ t → t < j → 128 ≤ g s (i + t) ∧ g s (i + t) ≤ 191)) (fun _ m => 4 - (intOf m).toNat)
        case atStart => exact ⟨2, by omega, by omega, rfl, fun t _ _ => by omega⟩
        case round =>
          obtain ⟨j, hj1, hj2, rfl, HC⟩ := hrel
          by_cases hlt : j < 4
          · have hx : i + j < s.size := by omega
            have hg := g_at s (i + j) hx
            by_cases hq : (s[i + j].toNat : Int) < 128
            · have e0 : Hid (wd s i = 1) := lead_not HL.out (fun k => by have := k.2.2.2 j hj1 hlt; omega)
              clear hg
              go_wp2
              go_ret
              exact ⟨by rw [e0.out]; rfl, rfl⟩
            · by_cases hq2 : (s[i + j].toNat : Int) ≤ 191
              · have HC2 : Hid (∀ t, 2 ≤ t → t < j + 1 → 128 ≤ g s (i + t) ∧ g s (i + t) ≤ 191) := fun t h3 h4 => by
                  by_cases ht : t = j
                  · subst ht
                    omega
                  · exact HC.out t h3 (by omega)
                clear hg
                go_wp2
                go_round
                case rel => exact ⟨j + 1, by omega, by omega, by go_num, HC2⟩
                case measure => simp [intOf]; omega
              · have e0 : Hid (wd s i = 1) := lead_not HL.out (fun k => by have := k.2.2.2 j hj1 hlt; omega)
                clear hg
                go_wp2
                go_ret
                exact ⟨by rw [e0.out]; rfl, rfl⟩
          · have e0 : Hid (wd s i = 4) := lead_all HL.out ⟨by omega, HB.out.1, HB.out.2, fun t h3 h4 => HC.out t h3 (by omega)⟩
            go_wp2
            go_ret
            exact ⟨by rw [e0.out]; rfl, rfl⟩
      · have e0 : Hid (wd s i = 1) := lead_not HL.out (fun k => by omega)
        clear hg1
        go_wp2
        go_ret
        exact ⟨by rw [e0.out]; rfl, rfl⟩

set_option maxHeartbeats 2000000 in
set_option maxRecDepth 100000 in
theorem stepK (s : ByteArray) (i : Nat) (w : World) (hs : s.size ≤ 9223372036854775807) (hin : i < s.size) (h1 : 244 ≤ g s i) (h2 : g s i ≤ 244) :
    Calls Try.prog 9 #[.string s, .int .i64 i] w fun e w' => e = .returned (.int .i64 (wd s i : Nat)) ∧ w' = w := by
  have HL : Hid (Lead (g s i) 4 128 143) := leadK h1 h2
  have hc := g_at s i hin
  have c1 : 244 ≤ (s[i].toNat : Int) := by omega
  have c2 : (s[i].toNat : Int) ≤ 244 := by omega
  have q224 : ((s[i].toNat : Int) == 224) = false := by rw [beq_eq_false_iff_ne]; omega
  have q238 : ((s[i].toNat : Int) == 238) = false := by rw [beq_eq_false_iff_ne]; omega
  have q239 : ((s[i].toNat : Int) == 239) = false := by rw [beq_eq_false_iff_ne]; omega
  have q237 : ((s[i].toNat : Int) == 237) = false := by rw [beq_eq_false_iff_ne]; omega
  have q240 : ((s[i].toNat : Int) == 240) = false := by rw [beq_eq_false_iff_ne]; omega
  have q244 : ((s[i].toNat : Int) == 244) = true := by rw [beq_iff_eq]; omega
  clear hc h1 h2
  go_enter Try.func9, Try.ntmps9
  by_cases hr : s.size - i < 4
  · have e0 : Hid (wd s i = 1) := lead_not HL.out (fun k => by omega)
    go_wp2
    go_ret
    exact ⟨by rw [e0.out]; rfl, rfl⟩
  · have hx1 : i + 1 < s.size := by omega
    have hg1 := g_at s (i + 1) hx1
    have Hg1 : Hid (g s (i + 1) = s[i + 1].toNat) := hg1
    by_cases hb : (s[i + 1].toNat : Int) < 128
    · have e0 : Hid (wd s i = 1) := lead_not HL.out (fun k => by omega)
      clear hg1
      go_wp2
      go_ret
      exact ⟨by rw [e0.out]; rfl, rfl⟩
    · by_cases hb2 : (s[i + 1].toNat : Int) ≤ 143
      · have HB : Hid (128 ≤ g s (i + 1) ∧ g s (i + 1) ≤ 143) := ⟨by omega, by omega⟩
        clear hg1
        go_wp2_with fail
        go_loop [9, 10] (fun b m => ∃ j : Nat, 2 ≤ j ∧ j ≤ 4 ∧ m = .int .i64 j ∧ Hid (∀ t, 2 ≤ t → t < j → 128 ≤ g s (i + t) ∧ g s (i + t) ≤ 191)) (fun _ m => 4 - (intOf m).toNat)
        case atStart => exact ⟨2, by omega, by omega, rfl, fun t _ _ => by omega⟩
        case round =>
          obtain ⟨j, hj1, hj2, rfl, HC⟩ := hrel
          by_cases hlt : j < 4
          · have hx : i + j < s.size := by omega
            have hg := g_at s (i + j) hx
            by_cases hq : (s[i + j].toNat : Int) < 128
            · have e0 : Hid (wd s i = 1) := lead_not HL.out (fun k => by have := k.2.2.2 j hj1 hlt; omega)
              clear hg
              go_wp2
              go_ret
              exact ⟨by rw [e0.out]; rfl, rfl⟩
            · by_cases hq2 : (s[i + j].toNat : Int) ≤ 191
              · have HC2 : Hid (∀ t, 2 ≤ t → t < j + 1 → 128 ≤ g s (i + t) ∧ g s (i + t) ≤ 191) := fun t h3 h4 => by
                  by_cases ht : t = j
                  · subst ht
                    omega
                  · exact HC.out t h3 (by omega)
                clear hg
                go_wp2
                go_round
                case rel => exact ⟨j + 1, by omega, by omega, by go_num, HC2⟩
                case measure => simp [intOf]; omega
              · have e0 : Hid (wd s i = 1) := lead_not HL.out (fun k => by have := k.2.2.2 j hj1 hlt; omega)
                clear hg
                go_wp2
                go_ret
                exact ⟨by rw [e0.out]; rfl, rfl⟩
          · have e0 : Hid (wd s i = 4) := lead_all HL.out ⟨by omega, HB.out.1, HB.out.2, fun t h3 h4 => HC.out t h3 (by omega)⟩
            go_wp2
            go_ret
            exact ⟨by rw [e0.out]; rfl, rfl⟩
      · have e0 : Hid (wd s i = 1) := lead_not HL.out (fun k => by omega)
        clear hg1
        go_wp2
        go_ret
        exact ⟨by rw [e0.out]; rfl, rfl⟩

set_option maxHeartbeats 2000000 in
set_option maxRecDepth 100000 in
theorem stepA (s : ByteArray) (i : Nat) (w : World) (hin : i < s.size) (h1 : g s i < 128) :
    Calls Try.prog 9 #[.string s, .int .i64 i] w fun e w' => e = .returned (.int .i64 (wd s i : Nat)) ∧ w' = w := by
  have e0 : Hid (wd s i = 1) := wd_else s i (by omega)
  have hc := g_at s i hin
  have c1 : (s[i].toNat : Int) < 128 := by omega
  clear hc h1
  go_enter Try.func9, Try.ntmps9
  go_wp2
  go_ret
  exact ⟨by rw [e0.out]; rfl, rfl⟩

set_option maxHeartbeats 2000000 in
set_option maxRecDepth 100000 in
theorem stepB (s : ByteArray) (i : Nat) (w : World) (hin : i < s.size) (h1 : 128 ≤ g s i) (h2 : g s i < 194) :
    Calls Try.prog 9 #[.string s, .int .i64 i] w fun e w' => e = .returned (.int .i64 (wd s i : Nat)) ∧ w' = w := by
  have e0 : Hid (wd s i = 1) := wd_else s i (by omega)
  have hc := g_at s i hin
  have c1 : (s[i].toNat : Int) < 194 := by omega
  have c2 : 128 ≤ (s[i].toNat : Int) := by omega
  have q224 : ((s[i].toNat : Int) == 224) = false := by rw [beq_eq_false_iff_ne]; omega
  have q238 : ((s[i].toNat : Int) == 238) = false := by rw [beq_eq_false_iff_ne]; omega
  have q239 : ((s[i].toNat : Int) == 239) = false := by rw [beq_eq_false_iff_ne]; omega
  have q237 : ((s[i].toNat : Int) == 237) = false := by rw [beq_eq_false_iff_ne]; omega
  have q240 : ((s[i].toNat : Int) == 240) = false := by rw [beq_eq_false_iff_ne]; omega
  have q244 : ((s[i].toNat : Int) == 244) = false := by rw [beq_eq_false_iff_ne]; omega
  clear hc h1 h2
  go_enter Try.func9, Try.ntmps9
  go_wp2
  go_ret
  exact ⟨by rw [e0.out]; rfl, rfl⟩

set_option maxHeartbeats 2000000 in
set_option maxRecDepth 100000 in
theorem stepL (s : ByteArray) (i : Nat) (w : World) (hin : i < s.size) (h1 : 244 < g s i) :
    Calls Try.prog 9 #[.string s, .int .i64 i] w fun e w' => e = .returned (.int .i64 (wd s i : Nat)) ∧ w' = w := by
  have e0 : Hid (wd s i = 1) := wd_else s i (by omega)
  have hc := g_at s i hin
  have c1 : 245 ≤ (s[i].toNat : Int) := by omega
  have q224 : ((s[i].toNat : Int) == 224) = false := by rw [beq_eq_false_iff_ne]; omega
  have q238 : ((s[i].toNat : Int) == 238) = false := by rw [beq_eq_false_iff_ne]; omega
  have q239 : ((s[i].toNat : Int) == 239) = false := by rw [beq_eq_false_iff_ne]; omega
  have q237 : ((s[i].toNat : Int) == 237) = false := by rw [beq_eq_false_iff_ne]; omega
  have q240 : ((s[i].toNat : Int) == 240) = false := by rw [beq_eq_false_iff_ne]; omega
  have q244 : ((s[i].toNat : Int) == 244) = false := by rw [beq_eq_false_iff_ne]; omega
  clear hc h1
  go_enter Try.func9, Try.ntmps9
  go_wp2
  go_ret
  exact ⟨by rw [e0.out]; rfl, rfl⟩

theorem step_any (s : ByteArray) (i : Nat) (w : World) (hs : s.size ≤ 9223372036854775807) (hin : i < s.size) :
    Calls Try.prog 9 #[.string s, .int .i64 i] w fun e w' => e = .returned (.int .i64 (wd s i : Nat)) ∧ w' = w := by
  by_cases a1 : g s i < 128
  · exact stepA s i w hin a1
  by_cases a2 : g s i < 194
  · exact stepB s i w hin (by omega) a2
  by_cases xC : g s i ≤ 223
  · exact stepC s i w hs hin (by omega) xC
  by_cases xD : g s i ≤ 224
  · exact stepD s i w hs hin (by omega) xD
  by_cases xE : g s i ≤ 236
  · exact stepE s i w hs hin (by omega) xE
  by_cases xH : g s i ≤ 237
  · exact stepH s i w hs hin (by omega) xH
  by_cases xF : g s i ≤ 238
  · exact stepF s i w hs hin (by omega) xF
  by_cases xG : g s i ≤ 239
  · exact stepG s i w hs hin (by omega) xG
  by_cases xI : g s i ≤ 240
  · exact stepI s i w hs hin (by omega) xI
  by_cases xJ : g s i ≤ 243
  · exact stepJ s i w hs hin (by omega) xJ
  by_cases xK : g s i ≤ 244
  · exact stepK s i w hs hin (by omega) xK
  exact stepL s i w hin (by omega)
end Go.Proofs.Qxb6628014a
