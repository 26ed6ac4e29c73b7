/-
  WALKS for seat b6627953a: zzTooBig (6).
-/
import Derived.Test.Qxb6627953aSmall
namespace Go.Proofs.Qxb6627953a
open Go.RowKit

theorem old_cell {w : World} {a : Addr} {v : Value} (h : w.cell? a = some v) (O : Obj) : (w.alloc O).cell? a = some v := (World.cell?_alloc_lt _ _ _ (World.block_lt_of_cell? w a h)).trans h

/-- A bool is returned; nothing old has turned; T holds of the bool. (Behind a name, so that the walk does not part it.) -/
def Ans (e : Ending) (w w' : World) (T : Bool → Prop) : Prop := ∃ r, e = .returned (.bool r) ∧ Below w.heap.size w w' ∧ T r
theorem Ans.mk {e : Ending} {w w' : World} {T : Bool → Prop} {r : Bool} (h : e = .returned (.bool r)) (hb : Below w.heap.size w w') (ht : T r) : Ans e w w' T := ⟨r, h, hb, ht⟩

/-- What the answer 'no' of zzTooBig gives. -/
def TB (r : Bool) (nn tn ln kn : Nat) (fn : Nat → Nat) : Prop := r = false → nn ≤ 1048576 ∧ tn ≤ 1048576 ∧ ln ≤ 1048576 ∧ kn ≤ 1048576 ∧ ∀ i, i < kn → fn i ≤ 1048576

set_option maxHeartbeats 4000000 in
set_option maxRecDepth 100000 in
theorem big_main (num ep : Int) (na : Option Addr) (nn nc : Nat) (rd wr : Int) (fr ta : Option Addr) (tn tc : Nat) (la : Option Addr) (ln lc : Nat) (ka : Option Addr) (kn kc : Nat) (hm : Bool) (st : Int)
    (SN ST N : Nat → ByteArray) (F fa : Nat → Option Addr) (fn fc : Nat → Nat) (w : World) (hN : StrSl w na nn nc SN) (hT : StrSl w ta tn tc ST) (hlF : ln ≤ maxLen) (hK : KeySl w ka kn kc N F fa fn fc) (h0 : 0 ≤ st) (h1 : st ≤ 1048576) (bN : nn ≤ 1048576) (bT : tn ≤ 1048576) (bF : ln ≤ 1048576) (bK : kn ≤ 1048576) :
    Calls Try.prog 6 #[.agg #[.int .u64 num, .int .u64 ep, .slice na nn nc, .int .i64 rd, .int .i64 wr, .pointer fr, .slice ta tn tc, .slice la ln lc, .slice ka kn kc, .bool hm], .int .i64 st] w fun e w' =>
      Ans e w w' (fun r => TB r nn tn ln kn fn) := by
  have lK := hK.le
  have HN : Hid (StrSl w na nn nc SN) := hN
  have HT : Hid (StrSl w ta tn tc ST) := hT
  have HK : Hid (KeySl w ka kn kc N F fa fn fc) := hK
  unfold maxLen at lK hlF
  clear hN hT hK
  obtain ⟨s0, rfl⟩ := Int.eq_ofNat_of_zero_le h0
  go_enter Try.func6, Try.ntmps6
  go_wp2_with fail
  by_cases hs : (s0 : Int) + 16 * (nn : Int) ≤ 1048576
  · refine (add_yes _ _ _ (by omega) (by omega) hs).mono ?_
    rintro e w' ⟨rfl, hw⟩
    subst w'
    go_wp2_with fail
    go_loop [5, 6, 7] (fun m ok i => ∃ k q : Nat, k ≤ nn ∧ q ≤ 1048576 ∧ m = .int .i64 q ∧ i = .int .i64 k) (fun _ _ i => nn - (intOf i).toNat)
    case atStart => exact ⟨0, s0 + 16 * nn, Nat.zero_le _, by omega, by go_num, rfl⟩
    case round =>
      obtain ⟨k, q, hk, hq, rfl, rfl⟩ := hrel
      by_cases hlt : k < nn
      · obtain ⟨b, o, hx, hc, hsz⟩ := HN.out.cell k hlt
        unfold maxLen at hsz
        have hc' := old_cell hc
        subst hx
        clear hc
        go_wp2_with fail
        by_cases hs2 : (q : Int) + ((SN k).size : Int) ≤ 1048576
        · refine (add_yes _ _ _ (by omega) (by omega) hs2).mono ?_
          rintro e w' ⟨rfl, hw⟩
          subst w'
          go_wp2
          go_round
          case rel => exact ⟨k + 1, q + (SN k).size, by omega, by omega, by go_num, by go_num⟩
          case measure => simp [intOf]; omega
        · refine (add_no _ _ _ (by omega) (by omega) (by omega) hs2).mono ?_
          rintro e w' ⟨⟨mm, rfl⟩, hw⟩
          subst w'
          go_wp2
          go_ret
          exact Ans.mk (r := true) rfl ((Below.refl _ _).alloc (Nat.le_refl _) _) (fun h => by cases h)
      · go_wp2_with fail
        by_cases hs3 : (q : Int) + 16 * (tn : Int) ≤ 1048576
        · refine (add_yes _ _ _ (by omega) (by omega) hs3).mono ?_
          rintro e w' ⟨rfl, hw⟩
          subst w'
          go_wp2_with fail
          go_loop [5, 6, 8] (fun m ok i => ∃ k q : Nat, k ≤ tn ∧ q ≤ 1048576 ∧ m = .int .i64 q ∧ i = .int .i64 k) (fun _ _ i => tn - (intOf i).toNat)
          case atStart => exact ⟨0, q + 16 * tn, Nat.zero_le _, by omega, by go_num, rfl⟩
          case round =>
            obtain ⟨k, q, hk, hq, rfl, rfl⟩ := hrel
            by_cases hlt : k < tn
            · obtain ⟨b, o, hx, hc, hsz⟩ := HT.out.cell k hlt
              unfold maxLen at hsz
              have hc' := old_cell hc
              subst hx
              clear hc
              go_wp2_with fail
              by_cases hs2 : (q : Int) + ((ST k).size : Int) ≤ 1048576
              · refine (add_yes _ _ _ (by omega) (by omega) hs2).mono ?_
                rintro e w' ⟨rfl, hw⟩
                subst w'
                go_wp2
                go_round
                case rel => exact ⟨k + 1, q + (ST k).size, by omega, by omega, by go_num, by go_num⟩
                case measure => simp [intOf]; omega
              · refine (add_no _ _ _ (by omega) (by omega) (by omega) hs2).mono ?_
                rintro e w' ⟨⟨mm, rfl⟩, hw⟩
                subst w'
                go_wp2
                go_ret
                exact Ans.mk (r := true) rfl ((Below.refl _ _).alloc (Nat.le_refl _) _) (fun h => by cases h)
            · go_wp2_with fail
              by_cases hs4 : (q : Int) + 24 * (ln : Int) ≤ 1048576
              · refine (add_yes _ _ _ (by omega) (by omega) hs4).mono ?_
                rintro e w' ⟨rfl, hw⟩
                subst w'
                go_wp2_with fail
                by_cases hs5 : (q : Int) + 24 * (ln : Int) + 56 * (kn : Int) ≤ 1048576
                · refine (add_yes _ _ _ (by omega) (by omega) hs5).mono ?_
                  rintro e w' ⟨rfl, hw⟩
                  subst w'
                  go_wp2_with fail
                  go_loop [5, 6, 9] (fun m ok i => ∃ k q : Nat, k ≤ kn ∧ q ≤ 1048576 ∧ m = .int .i64 q ∧ i = .int .i64 k ∧ Hid (∀ j, j < k → fn j ≤ 1048576)) (fun _ _ i => kn - (intOf i).toNat)
                  case atStart => exact ⟨0, q + 24 * ln + 56 * kn, Nat.zero_le _, by omega, by go_num, rfl, fun j hj => absurd hj (Nat.not_lt_zero _)⟩
                  case round =>
                    obtain ⟨k, q, hk, hq, rfl, rfl, Hj⟩ := hrel
                    by_cases hlt : k < kn
                    · obtain ⟨b, o, r, qq, hx, c0, c1, c2, c3, c4⟩ := HK.out.cell k hlt
                      have hnm := HK.out.name k hlt
                      have hfl := (HK.out.floors k hlt).le
                      unfold maxLen at hnm hfl
                      have c0' := old_cell c0
                      have c4' := old_cell c4
                      subst hx
                      clear c0 c1 c2 c3 c4
                      go_wp2_with fail
                      by_cases hs2 : (q : Int) + ((N k).size : Int) ≤ 1048576
                      · refine (add_yes _ _ _ (by omega) (by omega) hs2).mono ?_
                        rintro e w' ⟨rfl, hw⟩
                        subst w'
                        by_cases hfk : fn k ≤ 1048576
                        · go_wp2_with fail
                          by_cases hs3 : (q : Int) + ((N k).size : Int) + 24 * (fn k : Int) ≤ 1048576
                          · refine (add_yes _ _ _ (by omega) (by omega) hs3).mono ?_
                            rintro e w' ⟨rfl, hw⟩
                            subst w'
                            have Hj2 : Hid (∀ j, j < k + 1 → fn j ≤ 1048576) := fun j hj => by
                              by_cases e : j = k
                              · rw [e]; exact hfk
                              · exact Hj.out j (by omega)
                            go_wp2
                            go_round
                            case rel => exact ⟨k + 1, q + (N k).size + 24 * fn k, by omega, by omega, by go_num, by go_num, Hj2⟩
                            case measure => simp [intOf]; omega
                          · refine (add_no _ _ _ (by omega) (by omega) (by omega) hs3).mono ?_
                            rintro e w' ⟨⟨mm, rfl⟩, hw⟩
                            subst w'
                            go_wp2
                            go_ret
                            exact Ans.mk (r := true) rfl ((Below.refl _ _).alloc (Nat.le_refl _) _) (fun h => by cases h)
                        · go_wp2
                          go_ret
                          exact Ans.mk (r := true) rfl ((Below.refl _ _).alloc (Nat.le_refl _) _) (fun h => by cases h)
                      · refine (add_no _ _ _ (by omega) (by omega) (by omega) hs2).mono ?_
                        rintro e w' ⟨⟨mm, rfl⟩, hw⟩
                        subst w'
                        go_wp2
                        go_ret
                        exact Ans.mk (r := true) rfl ((Below.refl _ _).alloc (Nat.le_refl _) _) (fun h => by cases h)
                    · obtain rfl : k = kn := by omega
                      go_wp2
                      go_ret
                      exact Ans.mk (r := false) rfl ((Below.refl _ _).alloc (Nat.le_refl _) _) (fun _ => ⟨bN, bT, bF, bK, Hj.out⟩)
                · refine (add_no _ _ _ (by omega) (by omega) (by omega) hs5).mono ?_
                  rintro e w' ⟨⟨mm, rfl⟩, hw⟩
                  subst w'
                  go_wp2
                  go_ret
                  exact Ans.mk (r := true) rfl ((Below.refl _ _).alloc (Nat.le_refl _) _) (fun h => by cases h)
              · refine (add_no _ _ _ (by omega) (by omega) (by omega) hs4).mono ?_
                rintro e w' ⟨⟨mm, rfl⟩, hw⟩
                subst w'
                go_wp2
                go_ret
                exact Ans.mk (r := true) rfl ((Below.refl _ _).alloc (Nat.le_refl _) _) (fun h => by cases h)
        · refine (add_no _ _ _ (by omega) (by omega) (by omega) hs3).mono ?_
          rintro e w' ⟨⟨mm, rfl⟩, hw⟩
          subst w'
          go_wp2
          go_ret
          exact Ans.mk (r := true) rfl ((Below.refl _ _).alloc (Nat.le_refl _) _) (fun h => by cases h)
  · refine (add_no _ _ _ (by omega) (by omega) (by omega) hs).mono ?_
    rintro e w' ⟨⟨mm, rfl⟩, hw⟩
    subst w'
    go_wp2
    go_ret
    exact Ans.mk (r := true) rfl ((Below.refl _ _).alloc (Nat.le_refl _) _) (fun h => by cases h)

set_option maxHeartbeats 4000000 in
set_option maxRecDepth 100000 in
theorem big_any (num ep : Int) (na : Option Addr) (nn nc : Nat) (rd wr : Int) (fr ta : Option Addr) (tn tc : Nat) (la : Option Addr) (ln lc : Nat) (ka : Option Addr) (kn kc : Nat) (hm : Bool) (st : Int)
    (SN ST N : Nat → ByteArray) (F fa : Nat → Option Addr) (fn fc : Nat → Nat) (w : World) (hN : StrSl w na nn nc SN) (hT : StrSl w ta tn tc ST) (hlF : ln ≤ maxLen) (hK : KeySl w ka kn kc N F fa fn fc) (h0 : 0 ≤ st) :
    Calls Try.prog 6 #[.agg #[.int .u64 num, .int .u64 ep, .slice na nn nc, .int .i64 rd, .int .i64 wr, .pointer fr, .slice ta tn tc, .slice la ln lc, .slice ka kn kc, .bool hm], .int .i64 st] w fun e w' =>
      Ans e w w' (fun r => TB r nn tn ln kn fn) := by
  by_cases h1 : st ≤ 1048576
  · by_cases bN : nn ≤ 1048576
    · by_cases bT : tn ≤ 1048576
      · by_cases bF : ln ≤ 1048576
        · by_cases bK : kn ≤ 1048576
          · exact big_main num ep na nn nc rd wr fr ta tn tc la ln lc ka kn kc hm st SN ST N F fa fn fc w hN hT hlF hK h0 h1 bN bT bF bK
          · have lK := hK.le
            unfold maxLen at lK
            clear hN hT hK
            go_enter Try.func6, Try.ntmps6
            go_wp2
            go_ret
            exact Ans.mk (r := true) rfl ((Below.refl _ _).alloc (Nat.le_refl _) _) (fun h => by cases h)
        · unfold maxLen at hlF
          clear hN hT hK
          go_enter Try.func6, Try.ntmps6
          go_wp2
          go_ret
          exact Ans.mk (r := true) rfl ((Below.refl _ _).alloc (Nat.le_refl _) _) (fun h => by cases h)
      · have lT := hT.le
        unfold maxLen at lT
        clear hN hT hK
        go_enter Try.func6, Try.ntmps6
        go_wp2
        go_ret
        exact Ans.mk (r := true) rfl ((Below.refl _ _).alloc (Nat.le_refl _) _) (fun h => by cases h)
    · have lN := hN.le
      unfold maxLen at lN
      clear hN hT hK
      go_enter Try.func6, Try.ntmps6
      go_wp2
      go_ret
      exact Ans.mk (r := true) rfl ((Below.refl _ _).alloc (Nat.le_refl _) _) (fun h => by cases h)
  · clear hN hT hK
    go_enter Try.func6, Try.ntmps6
    go_wp2
    go_ret
    exact Ans.mk (r := true) rfl ((Below.refl _ _).alloc (Nat.le_refl _) _) (fun h => by cases h)
end Go.Proofs.Qxb6627953a
