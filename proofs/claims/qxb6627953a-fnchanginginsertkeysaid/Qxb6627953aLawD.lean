/-
  THE SECOND LAW's WALK of seat b6627953a (function 4, FnChangingInsertKey).
-/
import Derived.Test.Qxb6627953aHot
import Derived.Test.Qxb6627953aBytes9
import Derived.Maps.OwnSet
namespace Go.Proofs.Qxb6627953a
open Go.RowKit Go.Maps

theorem chg_yes (num ep : Int) (na : Option Addr) (nn nc : Nat) (rd wr : Int) (fr ta : Option Addr) (tn tc : Nat) (la : Option Addr) (ln lc : Nat) (km : Option Nat) (hm : Bool) (n : Nat) (D : DataW Unit) (w : World) (hown : ∀ b, km = some b → w.ownsMap Try.prog 9 keyR b n D)
    (h : fr.isSome = true ∨ ta.isSome = true ∨ (km.isSome = true ∧ Hot D)) :
    Calls Try.prog 8 #[.agg #[.int .u64 num, .int .u64 ep, .slice na nn nc, .int .i64 rd, .int .i64 wr, .pointer fr, .slice ta tn tc, .slice la ln lc, .map km, .bool hm]] w fun e w' => e = .returned (.bool true) ∧ Below w.heap.size w w' := by
  refine (chg_any num ep na nn nc rd wr fr ta tn tc la ln lc km hm n D w hown).mono ?_
  rintro e w' ⟨⟨r, rfl, hr⟩, hb⟩
  exact ⟨by rw [hr.2 h], hb⟩

theorem chg_no (num ep : Int) (na : Option Addr) (nn nc : Nat) (rd wr : Int) (fr ta : Option Addr) (tn tc : Nat) (la : Option Addr) (ln lc : Nat) (km : Option Nat) (hm : Bool) (n : Nat) (D : DataW Unit) (w : World) (hown : ∀ b, km = some b → w.ownsMap Try.prog 9 keyR b n D)
    (h : ¬ (fr.isSome = true ∨ ta.isSome = true ∨ (km.isSome = true ∧ Hot D))) :
    Calls Try.prog 8 #[.agg #[.int .u64 num, .int .u64 ep, .slice na nn nc, .int .i64 rd, .int .i64 wr, .pointer fr, .slice ta tn tc, .slice la ln lc, .map km, .bool hm]] w fun e w' => e = .returned (.bool false) ∧ Below w.heap.size w w' := by
  refine (chg_any num ep na nn nc rd wr fr ta tn tc la ln lc km hm n D w hown).mono ?_
  rintro e w' ⟨⟨r, rfl, hr⟩, hb⟩
  cases r with
  | true => exact absurd (hr.1 rfl) h
  | false => exact ⟨rfl, hb⟩

theorem Try.eq33 (w : World) (r : Option Nat) : (binOp .eql 33 (.map r) (.map none)).run Try.prog w = .ok (.bool r.isNone) w := run_eql_map_nil w 33 9 43 r Try.underlying33
theorem Try.ne33 (w : World) (r : Option Nat) : (binOp .neq 33 (.map r) (.map none)).run Try.prog w = .ok (.bool (!r.isNone)) w := run_neq_map_nil w 33 9 43 r Try.underlying33

/-- What is told of memory ahead of 'full.Keys[name] = zzKey(kv)'. -/
structure Mid (X : World) (gb gf gk b2 n2 : Nat) (km1 : Option Nat) (D D1 : DataW Unit) (n1 : Nat) : Prop where
  full : X.ownsMap Try.prog 9 keyR b2 n2 D
  base : ∀ b, km1 = some b → X.ownsMap Try.prog 9 keyR b n1 D1
  nf : gf ≠ b2
  nb : gb ≠ b2
  nk : gk ≠ b2
  nm : ∀ b, km1 = some b → b ≠ b2

/-- A cell that no key is laid into, behind zzKey and the store into the map. -/
theorem cell_on {X y1 y2 : World} {b2 : Nat} (h1 : Below X.heap.size X y1) (h2 : y1.grownBy y2 (some b2)) {a : Addr} {v : Value} (h : X.cell? a = some v) (hne : a.block ≠ b2) : y2.cell? a = some v :=
  h2.cell (kept_cell h1 h) (fun e => hne (by cases e; rfl))

theorem undrew {X y : World} (h : Below X.drew.heap.size X.drew y) : Below X.heap.size X y := ⟨h.os, h.tape, h.output, h.size, h.block⟩

theorem hot_full {D : DataW Unit} (hD : IsMap D) {nm : ByteArray} {kf fr fr1 fr2 ta ta1 ta2 : Option Addr} {km1 : Option Nat} {b2 : Nat} (e1 : fr1.isSome = fr.isSome) (e2 : fr2.isSome = fr.isSome) (e3 : ta1.isSome = ta.isSome) (e4 : ta2.isSome = ta.isSome)
    (hk : km1 = none → ¬ Hot (D.del (kl nm))) :
    (fr2.isSome = true ∨ ta2.isSome = true ∨ ((some b2).isSome = true ∧ Hot (D.put (kl nm) (bd kf.isSome)))) ↔ ((fr1.isSome = true ∨ ta1.isSome = true ∨ (km1.isSome = true ∧ Hot (D.del (kl nm)))) ∨ kf.isSome = true) := by
  rw [hot_put D hD _ (kl_key nm), e1, e2, e3, e4]
  cases km1 with
  | none =>
    have := hk rfl
    simp only [Option.isSome_some, true_and, Option.isSome_none, Bool.false_eq_true, false_and, or_false]
    constructor
    · rintro (h | h | h | h)
      · exact .inl (.inl h)
      · exact .inl (.inr h)
      · exact absurd h this
      · exact .inr h
    · rintro ((h | h) | h)
      · exact .inl h
      · exact .inr (.inl h)
      · exact .inr (.inr (.inr h))
  | some b =>
    simp only [Option.isSome_some, true_and]
    constructor
    · rintro (h | h | h | h)
      · exact .inl (.inl h)
      · exact .inl (.inr (.inl h))
      · exact .inl (.inr (.inr h))
      · exact .inr h
    · rintro ((h | h | h) | h)
      · exact .inl h
      · exact .inr (.inl h)
      · exact .inr (.inr (.inl h))
      · exact .inr (.inr (.inr h))

theorem cold0 (N : Nat → ByteArray) (F : Nat → Option Addr) (k : Lit) : ¬ Hot ((DD N F 0).del k) := by
  rintro ⟨k', h1, _⟩
  by_cases e : k' = k
  · rw [e, has_del_same] at h1; cases h1
  · rw [has_del_other e] at h1
    simp [DD, Maps.has] at h1

set_option maxHeartbeats 4000000 in
set_option maxRecDepth 100000 in
theorem lawD_nil (num ep : Int) (na : Option Addr) (nn nc : Nat) (rd wr : Int) (fr ta : Option Addr) (tn tc : Nat) (la : Option Addr) (ln lc : Nat) (hm : Bool) (nm : ByteArray) (kr kw : Int) (kf kfa : Option Addr) (kfn kfc : Nat)
    (SN ST N : Nat → ByteArray) (F fa : Nat → Option Addr) (fn fc : Nat → Nat) (w : World) (hN : StrSl w na nn nc SN) (hq : Quo w fr) (hT : StrSl w ta tn tc ST) (hF : FlSl w la ln lc) (hK : KeySl w none 0 0 N F fa fn fc) (hnm : nm.size ≤ maxLen) (hkq : Quo w kf) (hkf : FlSl w kfa kfn kfc) :
    Calls Try.prog 4 #[.agg #[.int .u64 num, .int .u64 ep, .slice na nn nc, .int .i64 rd, .int .i64 wr, .pointer fr, .slice ta tn tc, .slice la ln lc, .slice none 0 0, .bool hm], .string nm, .agg #[.int .i64 kr, .int .i64 kw, .pointer kf, .slice kfa kfn kfc]] w fun e w' => e = .returned (.bool true) ∧ Below w.heap.size w w' := by
  have HN : Hid (StrSl w na nn nc SN) := hN
  have Hq : Hid (Quo w fr) := hq
  have HT : Hid (StrSl w ta tn tc ST) := hT
  have HF : Hid (FlSl w la ln lc) := hF
  have HK : Hid (KeySl w none 0 0 N F fa fn fc) := hK
  have Hkq : Hid (Quo w kf) := hkq
  have Hkf : Hid (FlSl w kfa kfn kfc) := hkf
  have Hnm : Hid (nm.size ≤ maxLen) := hnm
  have lkf := hkf.le
  unfold maxLen at hnm lkf
  clear hN hq hT hF hK hkq hkf
  have q33 := Try.eq33
  have n33 := Try.ne33
  have hmm := @run_makeMap Try.prog
  go_enter Try.func4, Try.ntmps4
  go_wp2_with fail
  obtain ⟨W, hW⟩ : ∃ W, W = (w.alloc (Obj.cells #[Value.int .u64 num, Value.int .u64 ep, Value.slice na nn nc, Value.int .i64 rd, Value.int .i64 wr, Value.pointer fr, Value.slice ta tn tc, Value.slice la ln lc, Value.slice none 0 0, Value.bool hm] 28)).alloc (Obj.cells #[Value.int .i64 kr, Value.int .i64 kw, Value.pointer kf, Value.slice kfa kfn kfc] 39) := ⟨_, rfl⟩
  rw [← hW]
  have HBW : Hid (Below w.heap.size w W) := by rw [hW]; exact ((Below.refl _ _).alloc (Nat.le_refl _) _).alloc (by simp) _
  have c0 : W.cell? ⟨w.heap.size, 0, none⟩ = some (.int .u64 num) := by rw [hW]; simp
  have c1 : W.cell? ⟨w.heap.size, 1, none⟩ = some (.int .u64 ep) := by rw [hW]; simp
  have c2 : W.cell? ⟨w.heap.size, 2, none⟩ = some (.slice na nn nc) := by rw [hW]; simp
  have c3 : W.cell? ⟨w.heap.size, 3, none⟩ = some (.int .i64 rd) := by rw [hW]; simp
  have c4 : W.cell? ⟨w.heap.size, 4, none⟩ = some (.int .i64 wr) := by rw [hW]; simp
  have c5 : W.cell? ⟨w.heap.size, 5, none⟩ = some (.pointer fr) := by rw [hW]; simp
  have c6 : W.cell? ⟨w.heap.size, 6, none⟩ = some (.slice ta tn tc) := by rw [hW]; simp
  have c7 : W.cell? ⟨w.heap.size, 7, none⟩ = some (.slice la ln lc) := by rw [hW]; simp
  have c8 : W.cell? ⟨w.heap.size, 8, none⟩ = some (.slice none 0 0) := by rw [hW]; simp
  have c9 : W.cell? ⟨w.heap.size, 9, none⟩ = some (.bool hm) := by rw [hW]; simp
  have k0 : W.cell? ⟨w.heap.size + 1, 0, none⟩ = some (.int .i64 kr) := by rw [hW]; simp
  have k1 : W.cell? ⟨w.heap.size + 1, 1, none⟩ = some (.int .i64 kw) := by rw [hW]; simp
  have k2 : W.cell? ⟨w.heap.size + 1, 2, none⟩ = some (.pointer kf) := by rw [hW]; simp
  have k3 : W.cell? ⟨w.heap.size + 1, 3, none⟩ = some (.slice kfa kfn kfc) := by rw [hW]; simp
  clear hW
  refine (bytes9 num ep na nn nc rd wr fr ta tn tc la ln lc none 0 0 hm nm kr kw kf kfa kfn kfc SN ST N F fa fn fc W (HN.out.keep HBW.out) (HT.out.keep HBW.out) HF.out.le (HK.out.keep HBW.out) Hnm.out Hkf.out.le).mono ?_
  rintro e w1 ⟨r, rfl, hb1, _⟩
  cases r with
  | false =>
    go_wp2
    go_ret
    exact ⟨rfl, chainB HBW.out hb1 (Nat.le_refl _)⟩
  | true =>
  replace c0 := kept_cell hb1 c0
  replace c1 := kept_cell hb1 c1
  replace c2 := kept_cell hb1 c2
  replace c3 := kept_cell hb1 c3
  replace c4 := kept_cell hb1 c4
  replace c5 := kept_cell hb1 c5
  replace c6 := kept_cell hb1 c6
  replace c7 := kept_cell hb1 c7
  replace c8 := kept_cell hb1 c8
  replace c9 := kept_cell hb1 c9
  replace k0 := kept_cell hb1 k0
  replace k1 := kept_cell hb1 k1
  replace k2 := kept_cell hb1 k2
  replace k3 := kept_cell hb1 k3
  replace HBW : Hid (Below w.heap.size w w1) := chainB HBW.out hb1 (Nat.le_refl _)
  clear hb1
  by_cases bnm : nm.size ≤ 1048576
  · by_cases bkf : kfn ≤ 1048576
    · go_wp2_with fail
      by_cases hs : (nm.size : Int) + 24 * (kfn : Int) ≤ 1048576
      · refine (add_yes _ _ _ (by omega) (by omega) hs).mono ?_
        rintro e w' ⟨rfl, hw⟩
        subst w'
        go_wp2_with fail
        refine (big_any num ep na nn nc rd wr fr ta tn tc la ln lc none 0 0 hm _ SN ST N F fa fn fc w1 (HN.out.keep HBW.out) (HT.out.keep HBW.out) HF.out.le (HK.out.keep HBW.out) (by omega)).mono ?_
        rintro e w2 ⟨r, rfl, hb2, htb⟩
        cases r with
        | true =>
          go_wp2
          go_ret
          exact ⟨rfl, chainB HBW.out hb2 (Nat.le_refl _)⟩
        | false =>
        obtain ⟨bN, bT, bF, bK, bfn⟩ := htb rfl
        have Hbf : Hid (∀ i, i < 0 → fn i ≤ 1048576) := bfn
        clear htb bfn
        replace c0 := kept_cell hb2 c0
        replace c1 := kept_cell hb2 c1
        replace c2 := kept_cell hb2 c2
        replace c3 := kept_cell hb2 c3
        replace c4 := kept_cell hb2 c4
        replace c5 := kept_cell hb2 c5
        replace c6 := kept_cell hb2 c6
        replace c7 := kept_cell hb2 c7
        replace c8 := kept_cell hb2 c8
        replace c9 := kept_cell hb2 c9
        replace k0 := kept_cell hb2 k0
        replace k1 := kept_cell hb2 k1
        replace k2 := kept_cell hb2 k2
        replace k3 := kept_cell hb2 k3
        replace HBW : Hid (Below w.heap.size w w2) := chainB HBW.out hb2 (Nat.le_refl _)
        clear hb2
        go_wp2_with fail
        refine (config_any num ep na nn nc rd wr fr ta tn tc la ln lc none 0 0 hm SN ST N F fa fn fc w2 (HN.out.keep HBW.out) (Hq.out.keep HBW.out) (HT.out.keep HBW.out) (HF.out.keep HBW.out) (HK.out.keep HBW.out) bN bT bF bK Hbf.out).mono ?_
        rintro e w3 ⟨⟨na1, nc1, fr1, ta1, tc1, la1, lc1, km1, rfl, hfr1, hta1, hkm1, hmap1⟩, hb3⟩
        replace c0 := kept_cell hb3 c0
        replace c1 := kept_cell hb3 c1
        replace c2 := kept_cell hb3 c2
        replace c3 := kept_cell hb3 c3
        replace c4 := kept_cell hb3 c4
        replace c5 := kept_cell hb3 c5
        replace c6 := kept_cell hb3 c6
        replace c7 := kept_cell hb3 c7
        replace c8 := kept_cell hb3 c8
        replace c9 := kept_cell hb3 c9
        replace k0 := kept_cell hb3 k0
        replace k1 := kept_cell hb3 k1
        replace k2 := kept_cell hb3 k2
        replace k3 := kept_cell hb3 k3
        replace HBW : Hid (Below w.heap.size w w3) := chainB HBW.out hb3 (Nat.le_refl _)
        have Hfr1 : Hid (fr1.isSome = fr.isSome) := hfr1
        have Hta1 : Hid (ta1.isSome = ta.isSome) := hta1
        clear hb3 hfr1 hta1
        obtain rfl : km1 = none := by cases km1 with | none => rfl | some b => cases hkm1
        have c0' := old_cell c0
        have c1' := old_cell c1
        have c2' := old_cell c2
        have c3' := old_cell c3
        have c4' := old_cell c4
        have c5' := old_cell c5
        have c6' := old_cell c6
        have c7' := old_cell c7
        have c8' := old_cell c8
        have c9' := old_cell c9
        go_wp2_with fail
        obtain ⟨W3, hW3⟩ : ∃ W3, W3 = w3.alloc (Obj.cells #[Value.int .u64 num, Value.int .u64 ep, Value.slice na1 nn nc1, Value.int .i64 rd, Value.int .i64 wr, Value.pointer fr1, Value.slice ta1 tn tc1, Value.slice la1 ln lc1, Value.map none, Value.bool hm] 35) := ⟨_, rfl⟩
        rw [← hW3]
        have hB3 : Below w3.heap.size w3 W3 := by rw [hW3]; exact (Below.refl _ _).alloc (Nat.le_refl _) _
        have b0 : W3.cell? ⟨w3.heap.size, 0, none⟩ = some (.int .u64 num) := by rw [hW3]; simp
        have b1 : W3.cell? ⟨w3.heap.size, 1, none⟩ = some (.int .u64 ep) := by rw [hW3]; simp
        have b2 : W3.cell? ⟨w3.heap.size, 2, none⟩ = some (.slice na1 nn nc1) := by rw [hW3]; simp
        have b3 : W3.cell? ⟨w3.heap.size, 3, none⟩ = some (.int .i64 rd) := by rw [hW3]; simp
        have b4 : W3.cell? ⟨w3.heap.size, 4, none⟩ = some (.int .i64 wr) := by rw [hW3]; simp
        have b5 : W3.cell? ⟨w3.heap.size, 5, none⟩ = some (.pointer fr1) := by rw [hW3]; simp
        have b6 : W3.cell? ⟨w3.heap.size, 6, none⟩ = some (.slice ta1 tn tc1) := by rw [hW3]; simp
        have b7 : W3.cell? ⟨w3.heap.size, 7, none⟩ = some (.slice la1 ln lc1) := by rw [hW3]; simp
        have b8 : W3.cell? ⟨w3.heap.size, 8, none⟩ = some (.map none) := by rw [hW3]; simp
        have b9 : W3.cell? ⟨w3.heap.size, 9, none⟩ = some (.bool hm) := by rw [hW3]; simp
        clear hW3
        clear c0' c1' c2' c3' c4' c5' c6' c7' c8' c9' c0 c1 c2 c3 c4 c5 c6 c7 c8 c9
        replace k0 := kept_cell hB3 k0
        replace k1 := kept_cell hB3 k1
        replace k2 := kept_cell hB3 k2
        replace k3 := kept_cell hB3 k3
        replace HBW : Hid (Below w.heap.size w W3) := chainB HBW.out hB3 (Nat.le_refl _)
        clear hB3 hkm1 hmap1
        refine (config_any num ep na nn nc rd wr fr ta tn tc la ln lc none 0 0 hm SN ST N F fa fn fc W3 (HN.out.keep HBW.out) (Hq.out.keep HBW.out) (HT.out.keep HBW.out) (HF.out.keep HBW.out) (HK.out.keep HBW.out) bN bT bF bK Hbf.out).mono ?_
        rintro e w5 ⟨⟨na2, nc2, fr2, ta2, tc2, la2, lc2, km2, rfl, hfr2, hta2, hkm2, hmap2⟩, hb5⟩
        have Hfr2 : Hid (fr2.isSome = fr.isSome) := hfr2
        have Hta2 : Hid (ta2.isSome = ta.isSome) := hta2
        clear hfr2 hta2
        obtain rfl : km2 = none := by cases km2 with | none => rfl | some b => cases hkm2
        replace k0 := kept_cell hb5 k0
        replace k1 := kept_cell hb5 k1
        replace k2 := kept_cell hb5 k2
        replace k3 := kept_cell hb5 k3
        replace b0 := kept_cell hb5 b0
        replace b1 := kept_cell hb5 b1
        replace b2 := kept_cell hb5 b2
        replace b3 := kept_cell hb5 b3
        replace b4 := kept_cell hb5 b4
        replace b5 := kept_cell hb5 b5
        replace b6 := kept_cell hb5 b6
        replace b7 := kept_cell hb5 b7
        replace b8 := kept_cell hb5 b8
        replace b9 := kept_cell hb5 b9
        replace HBW : Hid (Below w.heap.size w w5) := chainB HBW.out hb5 (Nat.le_refl _)
        clear hb5 hkm2 hmap2
        go_wp2_with fail
        have hs5 := World.block_lt_of_cell? w5 _ b0
        have hs5k := World.block_lt_of_cell? w5 _ k0
        replace hs5 : w3.heap.size < w5.heap.size := hs5
        replace hs5k : w.heap.size + 1 < w5.heap.size := hs5k
        obtain ⟨X, hX⟩ : ∃ X, X = ((w5.alloc (Obj.cells #[Value.int .u64 num, Value.int .u64 ep, Value.slice na2 nn nc2, Value.int .i64 rd, Value.int .i64 wr, Value.pointer fr2, Value.slice ta2 tn tc2, Value.slice la2 ln lc2, Value.map (some (w5.heap.size + 1)), Value.bool hm] 35)).alloc (Obj.map #[] 0)) := ⟨_, rfl⟩
        rw [← hX]
        have hBX : Below w5.heap.size w5 X := by rw [hX]; exact ((Below.refl _ _).alloc (Nat.le_refl _) _).alloc (by simp) _
        have f0 : X.cell? ⟨w5.heap.size, 0, none⟩ = some (.int .u64 num) := by rw [hX]; simp
        have f1 : X.cell? ⟨w5.heap.size, 1, none⟩ = some (.int .u64 ep) := by rw [hX]; simp
        have f2 : X.cell? ⟨w5.heap.size, 2, none⟩ = some (.slice na2 nn nc2) := by rw [hX]; simp
        have f3 : X.cell? ⟨w5.heap.size, 3, none⟩ = some (.int .i64 rd) := by rw [hX]; simp
        have f4 : X.cell? ⟨w5.heap.size, 4, none⟩ = some (.int .i64 wr) := by rw [hX]; simp
        have f5 : X.cell? ⟨w5.heap.size, 5, none⟩ = some (.pointer fr2) := by rw [hX]; simp
        have f6 : X.cell? ⟨w5.heap.size, 6, none⟩ = some (.slice ta2 tn tc2) := by rw [hX]; simp
        have f7 : X.cell? ⟨w5.heap.size, 7, none⟩ = some (.slice la2 ln lc2) := by rw [hX]; simp
        have f8 : X.cell? ⟨w5.heap.size, 8, none⟩ = some (.map (some (w5.heap.size + 1))) := by rw [hX]; simp
        have f9 : X.cell? ⟨w5.heap.size, 9, none⟩ = some (.bool hm) := by rw [hX]; simp
        replace k0 := kept_cell hBX k0
        replace k1 := kept_cell hBX k1
        replace k2 := kept_cell hBX k2
        replace k3 := kept_cell hBX k3
        replace b0 := kept_cell hBX b0
        replace b1 := kept_cell hBX b1
        replace b2 := kept_cell hBX b2
        replace b3 := kept_cell hBX b3
        replace b4 := kept_cell hBX b4
        replace b5 := kept_cell hBX b5
        replace b6 := kept_cell hBX b6
        replace b7 := kept_cell hBX b7
        replace b8 := kept_cell hBX b8
        replace b9 := kept_cell hBX b9
        have HMid : Hid (Mid X w3.heap.size w5.heap.size (w.heap.size + 1) (w5.heap.size + 1) 0 none (DD N F 0) ((DD N F 0).del (kl nm)) 0) := by
          refine ⟨?_, (fun b hb => by cases hb), by omega, by omega, by omega, (fun b hb => by cases hb)⟩
          rw [hX]
          have := World.ownsMap_made (w5.alloc (Obj.cells #[Value.int .u64 num, Value.int .u64 ep, Value.slice na2 nn nc2, Value.int .i64 rd, Value.int .i64 wr, Value.pointer fr2, Value.slice ta2 tn tc2, Value.slice la2 ln lc2, Value.map (some (w5.heap.size + 1)), Value.bool hm] 35)) Try.prog 9 keyR
          simpa [DD] using this
        have HB2 : Hid (w.heap.size ≤ w5.heap.size + 1) := by show w.heap.size ≤ w5.heap.size + 1; omega
        replace HBW : Hid (Below w.heap.size w X) := chainB HBW.out hBX (Nat.le_refl _)
        clear hX hBX hs5 hs5k
        have hS0 : X.drew.cell? ⟨w5.heap.size, 8, none⟩ = some (.map (some (w5.heap.size + 1))) ∧ X.drew.cell? ⟨w.heap.size + 1, 0, none⟩ = some (.int .i64 kr) ∧ X.drew.cell? ⟨w.heap.size + 1, 1, none⟩ = some (.int .i64 kw) ∧ X.drew.cell? ⟨w.heap.size + 1, 2, none⟩ = some (.pointer kf) ∧ X.drew.cell? ⟨w.heap.size + 1, 3, none⟩ = some (.slice kfa kfn kfc) := ⟨f8, k0, k1, k2, k3⟩
        go_region_held3 (fun w' => w'.cell? ⟨w5.heap.size, 8, none⟩ = some (.map (some (w5.heap.size + 1))) ∧ w'.cell? ⟨w.heap.size + 1, 0, none⟩ = some (.int .i64 kr) ∧ w'.cell? ⟨w.heap.size + 1, 1, none⟩ = some (.int .i64 kw) ∧ w'.cell? ⟨w.heap.size + 1, 2, none⟩ = some (.pointer kf) ∧ w'.cell? ⟨w.heap.size + 1, 3, none⟩ = some (.slice kfa kfn kfc))
          (first | with_reducible exact hS0 | with_reducible exact hS1 | with_reducible exact hS2)
          (first
            | (go_at_call 11; refine (key_any _ _ _ _ _ _ _ ?_ ?_ bkf).mono ?_; (exact Hkq.out.keep HBW.out.drew); (exact Hkf.out.keep HBW.out.drew); rintro e y1 ⟨⟨p', a', c', rfl, hp'⟩, hy1⟩; (replace hy1 := undrew hy1); (obtain ⟨y2, hrun, hown2, hg2⟩ := (own_below HMid.out.full hy1).update law Try.underlying33 (by unfold maxLen; omega) (key9 Hnm.out) (keyR_mk kr kw p' a' kfn c')); (have hS1 : y1.cell? ⟨w5.heap.size, 8, none⟩ = some (.map (some (w5.heap.size + 1))) ∧ y1.cell? ⟨w.heap.size + 1, 0, none⟩ = some (.int .i64 kr) ∧ y1.cell? ⟨w.heap.size + 1, 1, none⟩ = some (.int .i64 kw) ∧ y1.cell? ⟨w.heap.size + 1, 2, none⟩ = some (.pointer kf) ∧ y1.cell? ⟨w.heap.size + 1, 3, none⟩ = some (.slice kfa kfn kfc) := ⟨kept_cell hy1 f8, kept_cell hy1 k0, kept_cell hy1 k1, kept_cell hy1 k2, kept_cell hy1 k3⟩); (have hS2 : y2.cell? ⟨w5.heap.size, 8, none⟩ = some (.map (some (w5.heap.size + 1))) ∧ y2.cell? ⟨w.heap.size + 1, 0, none⟩ = some (.int .i64 kr) ∧ y2.cell? ⟨w.heap.size + 1, 1, none⟩ = some (.int .i64 kw) ∧ y2.cell? ⟨w.heap.size + 1, 2, none⟩ = some (.pointer kf) ∧ y2.cell? ⟨w.heap.size + 1, 3, none⟩ = some (.slice kfa kfn kfc) := ⟨cell_on hy1 hg2 f8 HMid.out.nf, cell_on hy1 hg2 k0 HMid.out.nk, cell_on hy1 hg2 k1 HMid.out.nk, cell_on hy1 hg2 k2 HMid.out.nk, cell_on hy1 hg2 k3 HMid.out.nk⟩); rw [hp'] at hown2; (have Hown2 : Hid _ := hown2); (have Hg2 : Hid _ := hg2); (have Hy1 : Hid _ := hy1); clear hown2 hg2 hy1))
        replace b0 := cell_on Hy1.out Hg2.out b0 HMid.out.nb
        replace b1 := cell_on Hy1.out Hg2.out b1 HMid.out.nb
        replace b2 := cell_on Hy1.out Hg2.out b2 HMid.out.nb
        replace b3 := cell_on Hy1.out Hg2.out b3 HMid.out.nb
        replace b4 := cell_on Hy1.out Hg2.out b4 HMid.out.nb
        replace b5 := cell_on Hy1.out Hg2.out b5 HMid.out.nb
        replace b6 := cell_on Hy1.out Hg2.out b6 HMid.out.nb
        replace b7 := cell_on Hy1.out Hg2.out b7 HMid.out.nb
        replace b8 := cell_on Hy1.out Hg2.out b8 HMid.out.nb
        replace b9 := cell_on Hy1.out Hg2.out b9 HMid.out.nb
        replace f0 := cell_on Hy1.out Hg2.out f0 HMid.out.nf
        replace f1 := cell_on Hy1.out Hg2.out f1 HMid.out.nf
        replace f2 := cell_on Hy1.out Hg2.out f2 HMid.out.nf
        replace f3 := cell_on Hy1.out Hg2.out f3 HMid.out.nf
        replace f4 := cell_on Hy1.out Hg2.out f4 HMid.out.nf
        replace f5 := cell_on Hy1.out Hg2.out f5 HMid.out.nf
        replace f6 := cell_on Hy1.out Hg2.out f6 HMid.out.nf
        replace f7 := cell_on Hy1.out Hg2.out f7 HMid.out.nf
        replace f8 := cell_on Hy1.out Hg2.out f8 HMid.out.nf
        replace f9 := cell_on Hy1.out Hg2.out f9 HMid.out.nf
        have kx := hS2.2.2.2.1
        have Hbase : Hid (∀ b, none = some b → y2.ownsMap Try.prog 9 keyR b 0 ((DD N F 0).del (kl nm))) := fun b hb => (own_below (HMid.out.base b hb) Hy1.out).kept Hg2.out (fun e => HMid.out.nm b hb (by cases e; rfl))
        have HBY : Hid (Below w.heap.size w y2) := (chainB HBW.out Hy1.out (Nat.le_refl _)).grown Hg2.out (chainB HBW.out Hy1.out (Nat.le_refl _)).size (fun k hk => by cases hk; exact HB2.out)
        have hP := hot_full (km1 := none) (kf := kf) (b2 := w5.heap.size + 1) (nm := nm) (DD_isMap N F 0) Hfr1.out Hfr2.out Hta1.out Hta2.out (fun _ => cold0 N F (kl nm))
        clear hS0 hS1 hS2 hrun hp' k0 k1 k2 k3
        go_wp2_with fail
        by_cases hPb : fr1.isSome = true ∨ ta1.isSome = true ∨ ((none : Option Nat).isSome = true ∧ Hot ((DD N F 0).del (kl nm)))
        · have Hf : Hid _ := hP.2 (.inl hPb)
          have Hb : Hid _ := hPb
          clear hP hPb
          first
            | go_region_with (first
              | (go_at_call_of 8 fr2; refine (chg_yes _ _ _ _ _ _ _ _ _ _ _ _ _ _ _ _ (0 + 1) _ _ ?_ Hf.out).mono ?_; (intro b hb; cases hb; exact World.ownsMap.drew Hown2.out); rintro e z1 ⟨rfl, hz1⟩; (replace hz1 := undrew hz1); (have b0z := kept_cell hz1 b0); (have b1z := kept_cell hz1 b1); (have b2z := kept_cell hz1 b2); (have b3z := kept_cell hz1 b3); (have b4z := kept_cell hz1 b4); (have b5z := kept_cell hz1 b5); (have b6z := kept_cell hz1 b6); (have b7z := kept_cell hz1 b7); (have b8z := kept_cell hz1 b8); (have b9z := kept_cell hz1 b9); (have kxz := kept_cell hz1 kx))
              | (go_at_call_of 8 fr1; refine (chg_yes _ _ _ _ _ _ _ _ _ _ _ _ _ _ _ _ 0 _ _ ?_ Hb.out).mono ?_; (intro b hb; exact own_below (Hbase.out b hb) hz1); rintro e z2 ⟨rfl, hz2⟩; (have hz3 := chainB (chainB HBY.out hz1 (Nat.le_refl _)) hz2 (Nat.le_refl _)); (have kxw := kept_cell hz2 kxz)))
            | fail
          all_goals (go_wp2; go_ret; exact ⟨rfl, hz3⟩)
        · have Hb : Hid _ := hPb
          cases kf with
          | some kfx =>
            have Hf : Hid _ := hP.2 (.inr rfl)
            clear hP hPb
            first
              | go_region_with (first
                | (go_at_call_of 8 fr2; refine (chg_yes _ _ _ _ _ _ _ _ _ _ _ _ _ _ _ _ (0 + 1) _ _ ?_ Hf.out).mono ?_; (intro b hb; cases hb; exact World.ownsMap.drew Hown2.out); rintro e z1 ⟨rfl, hz1⟩; (replace hz1 := undrew hz1); (have b0z := kept_cell hz1 b0); (have b1z := kept_cell hz1 b1); (have b2z := kept_cell hz1 b2); (have b3z := kept_cell hz1 b3); (have b4z := kept_cell hz1 b4); (have b5z := kept_cell hz1 b5); (have b6z := kept_cell hz1 b6); (have b7z := kept_cell hz1 b7); (have b8z := kept_cell hz1 b8); (have b9z := kept_cell hz1 b9); (have kxz := kept_cell hz1 kx))
                | (go_at_call_of 8 fr1; refine (chg_no _ _ _ _ _ _ _ _ _ _ _ _ _ _ _ _ 0 _ _ ?_ Hb.out).mono ?_; (intro b hb; exact own_below (Hbase.out b hb) hz1); rintro e z2 ⟨rfl, hz2⟩; (have hz3 := chainB (chainB HBY.out hz1 (Nat.le_refl _)) hz2 (Nat.le_refl _)); (have kxw := kept_cell hz2 kxz)))
              | fail
            all_goals (go_wp2; go_ret; exact ⟨rfl, hz3⟩)
          | none =>
            have Hf : Hid (¬ _) := fun h => (hP.1 h).elim hPb (fun h => by cases h)
            clear hP hPb
            first
              | go_region_with (first
                | (go_at_call_of 8 fr2; refine (chg_no _ _ _ _ _ _ _ _ _ _ _ _ _ _ _ _ (0 + 1) _ _ ?_ Hf.out).mono ?_; (intro b hb; cases hb; exact World.ownsMap.drew Hown2.out); rintro e z1 ⟨rfl, hz1⟩; (replace hz1 := undrew hz1); (have b0z := kept_cell hz1 b0); (have b1z := kept_cell hz1 b1); (have b2z := kept_cell hz1 b2); (have b3z := kept_cell hz1 b3); (have b4z := kept_cell hz1 b4); (have b5z := kept_cell hz1 b5); (have b6z := kept_cell hz1 b6); (have b7z := kept_cell hz1 b7); (have b8z := kept_cell hz1 b8); (have b9z := kept_cell hz1 b9); (have kxz := kept_cell hz1 kx))
                | (go_at_call_of 8 fr1; refine (chg_no _ _ _ _ _ _ _ _ _ _ _ _ _ _ _ _ 0 _ _ ?_ Hb.out).mono ?_; (intro b hb; exact own_below (Hbase.out b hb) hz1); rintro e z2 ⟨rfl, hz2⟩; (have hz3 := chainB (chainB HBY.out hz1 (Nat.le_refl _)) hz2 (Nat.le_refl _)); (have kxw := kept_cell hz2 kxz)))
              | fail
            all_goals (go_wp2; go_ret; exact ⟨rfl, hz3⟩)
      · refine (add_no _ _ _ (by omega) (by omega) (by omega) hs).mono ?_
        rintro e w' ⟨⟨mm, rfl⟩, hw⟩
        subst w'
        go_wp2
        go_ret
        exact ⟨rfl, HBW.out⟩
    · go_wp2
      go_ret
      exact ⟨rfl, HBW.out⟩
  · go_wp2
    go_ret
    exact ⟨rfl, HBW.out⟩

end Go.Proofs.Qxb6627953a
