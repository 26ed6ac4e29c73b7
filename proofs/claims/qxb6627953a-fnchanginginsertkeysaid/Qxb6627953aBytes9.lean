/-
  WALKS for seat b6627953a: the bound on lengths (9).
-/
import Derived.Test.Qxb6627953aBig
namespace Go.Proofs.Qxb6627953a
open Go.RowKit

theorem old_cell2 {w : World} {a : Addr} {v : Value} (h : w.cell? a = some v) (O O' : Obj) : ((w.alloc O).alloc O').cell? a = some v := old_cell (old_cell h O) O'

set_option maxHeartbeats 4000000 in
set_option maxRecDepth 100000 in
theorem bytes9 (num ep : Int) (na : Option Addr) (nn nc : Nat) (rd wr : Int) (fr ta : Option Addr) (tn tc : Nat) (la : Option Addr) (ln lc : Nat) (ka : Option Addr) (kn kc : Nat) (hm : Bool) (nm : ByteArray) (kr kw : Int) (kf kfa : Option Addr) (kfn kfc : Nat)
    (SN ST N : Nat → ByteArray) (F fa : Nat → Option Addr) (fn fc : Nat → Nat) (w : World) (hN : StrSl w na nn nc SN) (hT : StrSl w ta tn tc ST) (hlF : ln ≤ maxLen) (hK : KeySl w ka kn kc N F fa fn fc) (hnm : nm.size ≤ maxLen) (hkf : kfn ≤ maxLen) :
    Calls Try.prog 9 #[.agg #[.int .u64 num, .int .u64 ep, .slice na nn nc, .int .i64 rd, .int .i64 wr, .pointer fr, .slice ta tn tc, .slice la ln lc, .slice ka kn kc, .bool hm], .string nm, .agg #[.int .i64 kr, .int .i64 kw, .pointer kf, .slice kfa kfn kfc]] w fun e w' => Ans e w w' (fun _ => True) := by
  unfold maxLen at hnm hkf
  have lN := hN.le
  have lT := hT.le
  have lK := hK.le
  have HN : Hid (StrSl w na nn nc SN) := hN
  have HT : Hid (StrSl w ta tn tc ST) := hT
  have HK : Hid (KeySl w ka kn kc N F fa fn fc) := hK
  unfold maxLen at lN lT lK hlF
  clear hN hT hK
  go_enter Try.func9, Try.ntmps9
  by_cases bN : nn ≤ 1048576
  · skip
    go_wp2_with fail
    go_loop [7, 8] (fun m i => ∃ k q : Nat, k ≤ nn ∧ q ≤ 1048576 ∧ m = .int .i64 q ∧ i = .int .i64 k) (fun _ i => nn - (intOf i).toNat)
    case atStart => exact ⟨0, nn, Nat.zero_le _, by omega, by go_num, rfl⟩
    case round =>
      obtain ⟨k, q, hk, hq, rfl, rfl⟩ := hrel
      by_cases hlt : k < nn
      · obtain ⟨b, o, hx, hc, hsz⟩ := HN.out.cell k hlt
        unfold maxLen at hsz
        have hc' := old_cell2 hc
        subst hx
        clear hc
        by_cases hs1 : (SN k).size ≤ 1048576
        · by_cases hs2 : q + (SN k).size ≤ 1048576
          · go_wp2
            go_round
            case rel => exact ⟨k + 1, q + (SN k).size, by omega, by omega, by go_num, by go_num⟩
            case measure => simp [intOf]; omega
          · go_wp2
            go_ret
            exact Ans.mk (r := false) rfl (((Below.refl _ _).alloc (Nat.le_refl _) _).alloc (by simp) _) trivial
        · go_wp2
          go_ret
          exact Ans.mk (r := false) rfl (((Below.refl _ _).alloc (Nat.le_refl _) _).alloc (by simp) _) trivial
      · skip
        by_cases bT : tn ≤ 1048576
        · skip
          by_cases bT2 : q + tn ≤ 1048576
          · skip
            go_wp2_with fail
            go_loop [7, 9] (fun m i => ∃ k q : Nat, k ≤ tn ∧ q ≤ 1048576 ∧ m = .int .i64 q ∧ i = .int .i64 k) (fun _ i => tn - (intOf i).toNat)
            case atStart => exact ⟨0, q + tn, Nat.zero_le _, by omega, by go_num, rfl⟩
            case round =>
              obtain ⟨k, q, hk, hq, rfl, rfl⟩ := hrel
              by_cases hlt : k < tn
              · obtain ⟨b, o, hx, hc, hsz⟩ := HT.out.cell k hlt
                unfold maxLen at hsz
                have hc' := old_cell2 hc
                subst hx
                clear hc
                by_cases hs1 : (ST k).size ≤ 1048576
                · by_cases hs2 : q + (ST k).size ≤ 1048576
                  · go_wp2
                    go_round
                    case rel => exact ⟨k + 1, q + (ST k).size, by omega, by omega, by go_num, by go_num⟩
                    case measure => simp [intOf]; omega
                  · go_wp2
                    go_ret
                    exact Ans.mk (r := false) rfl (((Below.refl _ _).alloc (Nat.le_refl _) _).alloc (by simp) _) trivial
                · go_wp2
                  go_ret
                  exact Ans.mk (r := false) rfl (((Below.refl _ _).alloc (Nat.le_refl _) _).alloc (by simp) _) trivial
              · skip
                by_cases bF : ln ≤ 1048576
                · skip
                  by_cases bF2 : q + ln ≤ 1048576
                  · skip
                    by_cases bK : kn ≤ 1048576
                    · skip
                      by_cases bK2 : q + ln + kn ≤ 1048576
                      · skip
                        go_wp2_with fail
                        go_loop [7, 10] (fun m i => ∃ k q : Nat, k ≤ kn ∧ q ≤ 1048576 ∧ m = .int .i64 q ∧ i = .int .i64 k) (fun _ i => kn - (intOf i).toNat)
                        case atStart => exact ⟨0, q + ln + kn, Nat.zero_le _, by omega, by go_num, rfl⟩
                        case round =>
                          obtain ⟨k, q, hk, hq, rfl, rfl⟩ := hrel
                          by_cases hlt : k < kn
                          · obtain ⟨b, o, r, qq, hx, c0, c1, c2, c3, c4⟩ := HK.out.cell k hlt
                            have hnm := HK.out.name k hlt
                            have hfl := (HK.out.floors k hlt).le
                            unfold maxLen at hnm hfl
                            have c0' := old_cell2 c0
                            have c4' := old_cell2 c4
                            subst hx
                            clear c0 c1 c2 c3 c4
                            by_cases hs1 : (N k).size ≤ 1048576
                            · by_cases hs2 : q + (N k).size ≤ 1048576
                              · by_cases hs3 : fn k ≤ 1048576
                                · by_cases hs4 : q + (N k).size + fn k ≤ 1048576
                                  · go_wp2
                                    go_round
                                    case rel => exact ⟨k + 1, q + (N k).size + fn k, by omega, by omega, by go_num, by go_num⟩
                                    case measure => simp [intOf]; omega
                                  · go_wp2
                                    go_ret
                                    exact Ans.mk (r := false) rfl (((Below.refl _ _).alloc (Nat.le_refl _) _).alloc (by simp) _) trivial
                                · go_wp2
                                  go_ret
                                  exact Ans.mk (r := false) rfl (((Below.refl _ _).alloc (Nat.le_refl _) _).alloc (by simp) _) trivial
                              · go_wp2
                                go_ret
                                exact Ans.mk (r := false) rfl (((Below.refl _ _).alloc (Nat.le_refl _) _).alloc (by simp) _) trivial
                            · go_wp2
                              go_ret
                              exact Ans.mk (r := false) rfl (((Below.refl _ _).alloc (Nat.le_refl _) _).alloc (by simp) _) trivial
                          · skip
                            by_cases e1 : nm.size ≤ 1048576
                            · skip
                              by_cases e2 : q + nm.size ≤ 1048576
                              · skip
                                by_cases e3 : kfn ≤ 1048576
                                · skip
                                  by_cases e4 : q + nm.size + kfn ≤ 1048576
                                  · skip
                                    go_wp2
                                    go_ret
                                    exact Ans.mk (r := true) rfl (((Below.refl _ _).alloc (Nat.le_refl _) _).alloc (by simp) _) trivial
                                  · go_wp2
                                    go_ret
                                    exact Ans.mk (r := false) rfl (((Below.refl _ _).alloc (Nat.le_refl _) _).alloc (by simp) _) trivial
                                · go_wp2
                                  go_ret
                                  exact Ans.mk (r := false) rfl (((Below.refl _ _).alloc (Nat.le_refl _) _).alloc (by simp) _) trivial
                              · go_wp2
                                go_ret
                                exact Ans.mk (r := false) rfl (((Below.refl _ _).alloc (Nat.le_refl _) _).alloc (by simp) _) trivial
                            · go_wp2
                              go_ret
                              exact Ans.mk (r := false) rfl (((Below.refl _ _).alloc (Nat.le_refl _) _).alloc (by simp) _) trivial
                      · go_wp2
                        go_ret
                        exact Ans.mk (r := false) rfl (((Below.refl _ _).alloc (Nat.le_refl _) _).alloc (by simp) _) trivial
                    · go_wp2
                      go_ret
                      exact Ans.mk (r := false) rfl (((Below.refl _ _).alloc (Nat.le_refl _) _).alloc (by simp) _) trivial
                  · go_wp2
                    go_ret
                    exact Ans.mk (r := false) rfl (((Below.refl _ _).alloc (Nat.le_refl _) _).alloc (by simp) _) trivial
                · go_wp2
                  go_ret
                  exact Ans.mk (r := false) rfl (((Below.refl _ _).alloc (Nat.le_refl _) _).alloc (by simp) _) trivial
          · go_wp2
            go_ret
            exact Ans.mk (r := false) rfl (((Below.refl _ _).alloc (Nat.le_refl _) _).alloc (by simp) _) trivial
        · go_wp2
          go_ret
          exact Ans.mk (r := false) rfl (((Below.refl _ _).alloc (Nat.le_refl _) _).alloc (by simp) _) trivial
  · go_wp2
    go_ret
    exact Ans.mk (r := false) rfl (((Below.refl _ _).alloc (Nat.le_refl _) _).alloc (by simp) _) trivial
end Go.Proofs.Qxb6627953a
