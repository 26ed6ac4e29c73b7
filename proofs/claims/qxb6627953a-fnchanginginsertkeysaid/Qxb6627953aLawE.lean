/-
  THE SECOND LAW's WALK of seat b6627953a (function 4, FnChangingInsertKey), the keys not nil.
-/
import Derived.Test.Qxb6627953aLawD
namespace Go.Proofs.Qxb6627953a
open Go.RowKit Go.Maps

theorem del_cell {w3 w4 : World} {O : Obj} {b1 : Nat} (hg : (w3.alloc O).grownBy w4 (some b1)) {a : Addr} {v : Value} (h : w3.cell? a = some v) (hne : a.block ≠ b1) : w4.cell? a = some v :=
  hg.cell (old_cell h O) (fun e => hne (by cases e; rfl))
theorem del_new {w3 w4 : World} {O : Obj} {b1 : Nat} (hg : (w3.alloc O).grownBy w4 (some b1)) {i : Nat} {v : Value} (h : (w3.alloc O).cell? ⟨w3.heap.size, i, none⟩ = some v) (hne : b1 < w3.heap.size) : w4.cell? ⟨w3.heap.size, i, none⟩ = some v :=
  hg.cell h (fun e => by simp at e; omega)

set_option maxHeartbeats 4000000 in
set_option maxRecDepth 100000 in
theorem lawD_map (num ep : Int) (na : Option Addr) (nn nc : Nat) (rd wr : Int) (fr ta : Option Addr) (tn tc : Nat) (la : Option Addr) (ln lc : Nat) (ka : Addr) (kn kc : Nat) (hm : Bool) (nm : ByteArray) (kr kw : Int) (kf kfa : Option Addr) (kfn kfc : Nat)
    (SN ST N : Nat → ByteArray) (F fa : Nat → Option Addr) (fn fc : Nat → Nat) (w : World) (hN : StrSl w na nn nc SN) (hq : Quo w fr) (hT : StrSl w ta tn tc ST) (hF : FlSl w la ln lc) (hK : KeySl w (some ka) kn kc N F fa fn fc) (hnm : nm.size ≤ maxLen) (hkq : Quo w kf) (hkf : FlSl w kfa kfn kfc) :
    Calls Try.prog 4 #[.agg #[.int .u64 num, .int .u64 ep, .slice na nn nc, .int .i64 rd, .int .i64 wr, .pointer fr, .slice ta tn tc, .slice la ln lc, .slice (some ka) kn kc, .bool hm], .string nm, .agg #[.int .i64 kr, .int .i64 kw, .pointer kf, .slice kfa kfn kfc]] w fun e w' => e = .returned (.bool true) ∧ Below w.heap.size w w' := by
  have HN : Hid (StrSl w na nn nc SN) := hN
  have Hq : Hid (Quo w fr) := hq
  have HT : Hid (StrSl w ta tn tc ST) := hT
  have HF : Hid (FlSl w la ln lc) := hF
  have HK : Hid (KeySl w (some ka) kn kc N F fa fn fc) := hK
  have Hkq : Hid (Quo w kf) := hkq
  have Hkf : Hid (FlSl w kfa kfn kfc) := hkf
  have Hnm : Hid (nm.size ≤ maxLen) := hnm
  have lkf := hkf.le
  unfold maxLen at hnm lkf
  clear hN hq hT hF hK hkq hkf
  have q33 := Try.eq33
  have n33 := Try.ne33
  have hmm := @run_makeMap Try.prog
  go_enter Try.func4, Try.ntmps4
  go_wp2_with fail
  obtain ⟨W, hW⟩ : ∃ W, W = (w.alloc (Obj.cells #[Value.int .u64 num, Value.int .u64 ep, Value.slice na nn nc, Value.int .i64 rd, Value.int .i64 wr, Value.pointer fr, Value.slice ta tn tc, Value.slice la ln lc, Value.slice (some ka) kn kc, Value.bool hm] 28)).alloc (Obj.cells #[Value.int .i64 kr, Value.int .i64 kw, Value.pointer kf, Value.slice kfa kfn kfc] 39) := ⟨_, rfl⟩
  rw [← hW]
  have HBW : Hid (Below w.heap.size w W) := by rw [hW]; exact ((Below.refl _ _).alloc (Nat.le_refl _) _).alloc (by simp) _
  have c0 : W.cell? ⟨w.heap.size, 0, none⟩ = some (.int .u64 num) := by rw [hW]; simp
  have c1 : W.cell? ⟨w.heap.size, 1, none⟩ = some (.int .u64 ep) := by rw [hW]; simp
  have c2 : W.cell? ⟨w.heap.size, 2, none⟩ = some (.slice na nn nc) := by rw [hW]; simp
  have c3 : W.cell? ⟨w.heap.size, 3, none⟩ = some (.int .i64 rd) := by rw [hW]; simp
  have c4 : W.cell? ⟨w.heap.size, 4, none⟩ = some (.int .i64 wr) := by rw [hW]; simp
  have c5 : W.cell? ⟨w.heap.size, 5, none⟩ = some (.pointer fr) := by rw [hW]; simp
  have c6 : W.cell? ⟨w.heap.size, 6, none⟩ = some (.slice ta tn tc) := by rw [hW]; simp
  have c7 : W.cell? ⟨w.heap.size, 7, none⟩ = some (.slice la ln lc) := by rw [hW]; simp
  have c8 : W.cell? ⟨w.heap.size, 8, none⟩ = some (.slice (some ka) kn kc) := by rw [hW]; simp
  have c9 : W.cell? ⟨w.heap.size, 9, none⟩ = some (.bool hm) := by rw [hW]; simp
  have k0 : W.cell? ⟨w.heap.size + 1, 0, none⟩ = some (.int .i64 kr) := by rw [hW]; simp
  have k1 : W.cell? ⟨w.heap.size + 1, 1, none⟩ = some (.int .i64 kw) := by rw [hW]; simp
  have k2 : W.cell? ⟨w.heap.size + 1, 2, none⟩ = some (.pointer kf) := by rw [hW]; simp
  have k3 : W.cell? ⟨w.heap.size + 1, 3, none⟩ = some (.slice kfa kfn kfc) := by rw [hW]; simp
  clear hW
  refine (bytes9 num ep na nn nc rd wr fr ta tn tc la ln lc (some ka) kn kc hm nm kr kw kf kfa kfn kfc SN ST N F fa fn fc W (HN.out.keep HBW.out) (HT.out.keep HBW.out) HF.out.le (HK.out.keep HBW.out) Hnm.out Hkf.out.le).mono ?_
  rintro e w1 ⟨r, rfl, hb1, _⟩
  cases r with
  | false =>
    go_wp2
    go_ret
    exact ⟨rfl, chainB HBW.out hb1 (Nat.le_refl _)⟩
  | true =>
  replace c0 := kept_cell hb1 c0
  replace c1 := kept_cell hb1 c1
  replace c2 := kept_cell hb1 c2
  replace c3 := kept_cell hb1 c3
  replace c4 := kept_cell hb1 c4
  replace c5 := kept_cell hb1 c5
  replace c6 := kept_cell hb1 c6
  replace c7 := kept_cell hb1 c7
  replace c8 := kept_cell hb1 c8
  replace c9 := kept_cell hb1 c9
  replace k0 := kept_cell hb1 k0
  replace k1 := kept_cell hb1 k1
  replace k2 := kept_cell hb1 k2
  replace k3 := kept_cell hb1 k3
  replace HBW : Hid (Below w.heap.size w w1) := chainB HBW.out hb1 (Nat.le_refl _)
  clear hb1
  by_cases bnm : nm.size ≤ 1048576
  · by_cases bkf : kfn ≤ 1048576
    · go_wp2_with fail
      by_cases hs : (nm.size : Int) + 24 * (kfn : Int) ≤ 1048576
      · refine (add_yes _ _ _ (by omega) (by omega) hs).mono ?_
        rintro e w' ⟨rfl, hw⟩
        subst w'
        go_wp2_with fail
        refine (big_any num ep na nn nc rd wr fr ta tn tc la ln lc (some ka) kn kc hm _ SN ST N F fa fn fc w1 (HN.out.keep HBW.out) (HT.out.keep HBW.out) HF.out.le (HK.out.keep HBW.out) (by omega)).mono ?_
        rintro e w2 ⟨r, rfl, hb2, htb⟩
        cases r with
        | true =>
          go_wp2
          go_ret
          exact ⟨rfl, chainB HBW.out hb2 (Nat.le_refl _)⟩
        | false =>
        obtain ⟨bN, bT, bF, bK, bfn⟩ := htb rfl
        have Hbf : Hid (∀ i, i < kn → fn i ≤ 1048576) := bfn
        clear htb bfn
        replace c0 := kept_cell hb2 c0
        replace c1 := kept_cell hb2 c1
        replace c2 := kept_cell hb2 c2
        replace c3 := kept_cell hb2 c3
        replace c4 := kept_cell hb2 c4
        replace c5 := kept_cell hb2 c5
        replace c6 := kept_cell hb2 c6
        replace c7 := kept_cell hb2 c7
        replace c8 := kept_cell hb2 c8
        replace c9 := kept_cell hb2 c9
        replace k0 := kept_cell hb2 k0
        replace k1 := kept_cell hb2 k1
        replace k2 := kept_cell hb2 k2
        replace k3 := kept_cell hb2 k3
        replace HBW : Hid (Below w.heap.size w w2) := chainB HBW.out hb2 (Nat.le_refl _)
        have hs2 : w.heap.size + 1 < w2.heap.size := World.block_lt_of_cell? w2 _ k0
        clear hb2
        go_wp2_with fail
        refine (config_any num ep na nn nc rd wr fr ta tn tc la ln lc (some ka) kn kc hm SN ST N F fa fn fc w2 (HN.out.keep HBW.out) (Hq.out.keep HBW.out) (HT.out.keep HBW.out) (HF.out.keep HBW.out) (HK.out.keep HBW.out) bN bT bF bK Hbf.out).mono ?_
        rintro e w3 ⟨⟨na1, nc1, fr1, ta1, tc1, la1, lc1, km1, rfl, hfr1, hta1, hkm1, hmap1⟩, hb3⟩
        replace c0 := kept_cell hb3 c0
        replace c1 := kept_cell hb3 c1
        replace c2 := kept_cell hb3 c2
        replace c3 := kept_cell hb3 c3
        replace c4 := kept_cell hb3 c4
        replace c5 := kept_cell hb3 c5
        replace c6 := kept_cell hb3 c6
        replace c7 := kept_cell hb3 c7
        replace c8 := kept_cell hb3 c8
        replace c9 := kept_cell hb3 c9
        replace k0 := kept_cell hb3 k0
        replace k1 := kept_cell hb3 k1
        replace k2 := kept_cell hb3 k2
        replace k3 := kept_cell hb3 k3
        replace HBW : Hid (Below w.heap.size w w3) := chainB HBW.out hb3 (Nat.le_refl _)
        have Hfr1 : Hid (fr1.isSome = fr.isSome) := hfr1
        have Hta1 : Hid (ta1.isSome = ta.isSome) := hta1
        clear hb3 hfr1 hta1
        obtain ⟨m1, rfl⟩ : ∃ m1, km1 = some m1 := by cases km1 with | none => cases hkm1 | some b => exact ⟨b, rfl⟩
        obtain ⟨hb1g, hown1⟩ := hmap1 m1 rfl
        have hb1l := hown1.lt
        clear hmap1 hkm1
        go_wp2_with (at_delete; (refine wpList_delete_own _ rfl _ _ 33 9 rfl 43 law Try.underlying33 keyR m1 kn (DD N F kn) rfl (hown1.alloc _) _ _ rfl (key9 Hnm.out) ?_; intro w4 hown4 hturn4; (have hg4 := hturn4.grown); (have c0q := del_cell hg4 c0 (by show w.heap.size ≠ m1; omega)); (have c1q := del_cell hg4 c1 (by show w.heap.size ≠ m1; omega)); (have c2q := del_cell hg4 c2 (by show w.heap.size ≠ m1; omega)); (have c3q := del_cell hg4 c3 (by show w.heap.size ≠ m1; omega)); (have c4q := del_cell hg4 c4 (by show w.heap.size ≠ m1; omega)); (have c5q := del_cell hg4 c5 (by show w.heap.size ≠ m1; omega)); (have c6q := del_cell hg4 c6 (by show w.heap.size ≠ m1; omega)); (have c7q := del_cell hg4 c7 (by show w.heap.size ≠ m1; omega)); (have c8q := del_cell hg4 c8 (by show w.heap.size ≠ m1; omega)); (have c9q := del_cell hg4 c9 (by show w.heap.size ≠ m1; omega)); (have k0q := del_cell hg4 k0 (by show w.heap.size + 1 ≠ m1; omega)); (have k1q := del_cell hg4 k1 (by show w.heap.size + 1 ≠ m1; omega)); (have k2q := del_cell hg4 k2 (by show w.heap.size + 1 ≠ m1; omega)); (have k3q := del_cell hg4 k3 (by show w.heap.size + 1 ≠ m1; omega)); (have b0 : w4.cell? ⟨w3.heap.size, 0, none⟩ = some (.int .u64 num) := del_new hg4 (by simp) hb1l); (have b1 : w4.cell? ⟨w3.heap.size, 1, none⟩ = some (.int .u64 ep) := del_new hg4 (by simp) hb1l); (have b2 : w4.cell? ⟨w3.heap.size, 2, none⟩ = some (.slice na1 nn nc1) := del_new hg4 (by simp) hb1l); (have b3 : w4.cell? ⟨w3.heap.size, 3, none⟩ = some (.int .i64 rd) := del_new hg4 (by simp) hb1l); (have b4 : w4.cell? ⟨w3.heap.size, 4, none⟩ = some (.int .i64 wr) := del_new hg4 (by simp) hb1l); (have b5 : w4.cell? ⟨w3.heap.size, 5, none⟩ = some (.pointer fr1) := del_new hg4 (by simp) hb1l); (have b6 : w4.cell? ⟨w3.heap.size, 6, none⟩ = some (.slice ta1 tn tc1) := del_new hg4 (by simp) hb1l); (have b7 : w4.cell? ⟨w3.heap.size, 7, none⟩ = some (.slice la1 ln lc1) := del_new hg4 (by simp) hb1l); (have b8 : w4.cell? ⟨w3.heap.size, 8, none⟩ = some (.map (some m1)) := del_new hg4 (by simp) hb1l); (have b9 : w4.cell? ⟨w3.heap.size, 9, none⟩ = some (.bool hm) := del_new hg4 (by simp) hb1l); (have Hg4 : Hid _ := hg4); clear hg4 hturn4))
        replace HBW : Hid (Below w.heap.size w w4) := (HBW.out.alloc HBW.out.size _).grown Hg4.out (by have := HBW.out.size; simp; omega) (fun k hk => by cases hk; omega)
        have hs4 : w3.heap.size + 1 ≤ w4.heap.size := by have := Hg4.out.size; simpa using this
        clear c0 c1 c2 c3 c4 c5 c6 c7 c8 c9 k0 k1 k2 k3 c0q c1q c2q c3q c4q c5q c6q c7q c8q c9q hown1
        refine (config_any num ep na nn nc rd wr fr ta tn tc la ln lc (some ka) kn kc hm SN ST N F fa fn fc w4 (HN.out.keep HBW.out) (Hq.out.keep HBW.out) (HT.out.keep HBW.out) (HF.out.keep HBW.out) (HK.out.keep HBW.out) bN bT bF bK Hbf.out).mono ?_
        rintro e w5 ⟨⟨na2, nc2, fr2, ta2, tc2, la2, lc2, km2, rfl, hfr2, hta2, hkm2, hmap2⟩, hb5⟩
        have Hfr2 : Hid (fr2.isSome = fr.isSome) := hfr2
        have Hta2 : Hid (ta2.isSome = ta.isSome) := hta2
        clear hfr2 hta2
        obtain ⟨m2, rfl⟩ : ∃ m2, km2 = some m2 := by cases km2 with | none => cases hkm2 | some b => exact ⟨b, rfl⟩
        obtain ⟨hb2g, hown2f⟩ := hmap2 m2 rfl
        have hb2l := hown2f.lt
        have Hown4 : Hid _ := own_below hown4 hb5
        have k0 := kept_cell hb5 k0q
        have k1 := kept_cell hb5 k1q
        have k2 := kept_cell hb5 k2q
        have k3 := kept_cell hb5 k3q
        replace b0 := kept_cell hb5 b0
        replace b1 := kept_cell hb5 b1
        replace b2 := kept_cell hb5 b2
        replace b3 := kept_cell hb5 b3
        replace b4 := kept_cell hb5 b4
        replace b5 := kept_cell hb5 b5
        replace b6 := kept_cell hb5 b6
        replace b7 := kept_cell hb5 b7
        replace b8 := kept_cell hb5 b8
        replace b9 := kept_cell hb5 b9
        replace HBW : Hid (Below w.heap.size w w5) := chainB HBW.out hb5 (Nat.le_refl _)
        clear hb5 hkm2 hmap2 hown4 k0q k1q k2q k3q
        go_wp2_with fail
        obtain ⟨X, hX⟩ : ∃ X, X = w5.alloc (Obj.cells #[Value.int .u64 num, Value.int .u64 ep, Value.slice na2 nn nc2, Value.int .i64 rd, Value.int .i64 wr, Value.pointer fr2, Value.slice ta2 tn tc2, Value.slice la2 ln lc2, Value.map (some m2), Value.bool hm] 35) := ⟨_, rfl⟩
        rw [← hX]
        have hBX : Below w5.heap.size w5 X := by rw [hX]; exact (Below.refl _ _).alloc (Nat.le_refl _) _
        have f0 : X.cell? ⟨w5.heap.size, 0, none⟩ = some (.int .u64 num) := by rw [hX]; simp
        have f1 : X.cell? ⟨w5.heap.size, 1, none⟩ = some (.int .u64 ep) := by rw [hX]; simp
        have f2 : X.cell? ⟨w5.heap.size, 2, none⟩ = some (.slice na2 nn nc2) := by rw [hX]; simp
        have f3 : X.cell? ⟨w5.heap.size, 3, none⟩ = some (.int .i64 rd) := by rw [hX]; simp
        have f4 : X.cell? ⟨w5.heap.size, 4, none⟩ = some (.int .i64 wr) := by rw [hX]; simp
        have f5 : X.cell? ⟨w5.heap.size, 5, none⟩ = some (.pointer fr2) := by rw [hX]; simp
        have f6 : X.cell? ⟨w5.heap.size, 6, none⟩ = some (.slice ta2 tn tc2) := by rw [hX]; simp
        have f7 : X.cell? ⟨w5.heap.size, 7, none⟩ = some (.slice la2 ln lc2) := by rw [hX]; simp
        have f8 : X.cell? ⟨w5.heap.size, 8, none⟩ = some (.map (some m2)) := by rw [hX]; simp
        have f9 : X.cell? ⟨w5.heap.size, 9, none⟩ = some (.bool hm) := by rw [hX]; simp
        replace k0 := kept_cell hBX k0
        replace k1 := kept_cell hBX k1
        replace k2 := kept_cell hBX k2
        replace k3 := kept_cell hBX k3
        replace b0 := kept_cell hBX b0
        replace b1 := kept_cell hBX b1
        replace b2 := kept_cell hBX b2
        replace b3 := kept_cell hBX b3
        replace b4 := kept_cell hBX b4
        replace b5 := kept_cell hBX b5
        replace b6 := kept_cell hBX b6
        replace b7 := kept_cell hBX b7
        replace b8 := kept_cell hBX b8
        replace b9 := kept_cell hBX b9
        have HMid : Hid (Mid X w3.heap.size w5.heap.size (w.heap.size + 1) m2 kn (some m1) (DD N F kn) ((DD N F kn).del (kl nm)) kn) :=
          ⟨own_below hown2f hBX, (fun b hb => by cases hb; exact own_below Hown4.out hBX), by omega, by omega, by omega, (fun b hb => by cases hb; omega)⟩
        have HB2 : Hid (w.heap.size ≤ m2) := by show w.heap.size ≤ m2; omega
        replace HBW : Hid (Below w.heap.size w X) := chainB HBW.out hBX (Nat.le_refl _)
        clear hX hBX hown2f Hown4
        have hS0 : X.drew.cell? ⟨w5.heap.size, 8, none⟩ = some (.map (some (m2))) ∧ X.drew.cell? ⟨w.heap.size + 1, 0, none⟩ = some (.int .i64 kr) ∧ X.drew.cell? ⟨w.heap.size + 1, 1, none⟩ = some (.int .i64 kw) ∧ X.drew.cell? ⟨w.heap.size + 1, 2, none⟩ = some (.pointer kf) ∧ X.drew.cell? ⟨w.heap.size + 1, 3, none⟩ = some (.slice kfa kfn kfc) := ⟨f8, k0, k1, k2, k3⟩
        go_region_held3 (fun w' => w'.cell? ⟨w5.heap.size, 8, none⟩ = some (.map (some (m2))) ∧ w'.cell? ⟨w.heap.size + 1, 0, none⟩ = some (.int .i64 kr) ∧ w'.cell? ⟨w.heap.size + 1, 1, none⟩ = some (.int .i64 kw) ∧ w'.cell? ⟨w.heap.size + 1, 2, none⟩ = some (.pointer kf) ∧ w'.cell? ⟨w.heap.size + 1, 3, none⟩ = some (.slice kfa kfn kfc))
          (first | with_reducible exact hS0 | with_reducible exact hS1 | with_reducible exact hS2)
          (first
            | (go_at_call 11; refine (key_any _ _ _ _ _ _ _ ?_ ?_ bkf).mono ?_; (exact Hkq.out.keep HBW.out.drew); (exact Hkf.out.keep HBW.out.drew); rintro e y1 ⟨⟨p', a', c', rfl, hp'⟩, hy1⟩; (replace hy1 := undrew hy1); (obtain ⟨y2, hrun, hown2, hg2⟩ := (own_below HMid.out.full hy1).update law Try.underlying33 (by unfold maxLen; omega) (key9 Hnm.out) (keyR_mk kr kw p' a' kfn c')); (have hS1 : y1.cell? ⟨w5.heap.size, 8, none⟩ = some (.map (some (m2))) ∧ y1.cell? ⟨w.heap.size + 1, 0, none⟩ = some (.int .i64 kr) ∧ y1.cell? ⟨w.heap.size + 1, 1, none⟩ = some (.int .i64 kw) ∧ y1.cell? ⟨w.heap.size + 1, 2, none⟩ = some (.pointer kf) ∧ y1.cell? ⟨w.heap.size + 1, 3, none⟩ = some (.slice kfa kfn kfc) := ⟨kept_cell hy1 f8, kept_cell hy1 k0, kept_cell hy1 k1, kept_cell hy1 k2, kept_cell hy1 k3⟩); (have hS2 : y2.cell? ⟨w5.heap.size, 8, none⟩ = some (.map (some (m2))) ∧ y2.cell? ⟨w.heap.size + 1, 0, none⟩ = some (.int .i64 kr) ∧ y2.cell? ⟨w.heap.size + 1, 1, none⟩ = some (.int .i64 kw) ∧ y2.cell? ⟨w.heap.size + 1, 2, none⟩ = some (.pointer kf) ∧ y2.cell? ⟨w.heap.size + 1, 3, none⟩ = some (.slice kfa kfn kfc) := ⟨cell_on hy1 hg2 f8 HMid.out.nf, cell_on hy1 hg2 k0 HMid.out.nk, cell_on hy1 hg2 k1 HMid.out.nk, cell_on hy1 hg2 k2 HMid.out.nk, cell_on hy1 hg2 k3 HMid.out.nk⟩); rw [hp'] at hown2; (have Hown2 : Hid _ := hown2); (have Hg2 : Hid _ := hg2); (have Hy1 : Hid _ := hy1); clear hown2 hg2 hy1))
        replace b0 := cell_on Hy1.out Hg2.out b0 HMid.out.nb
        replace b1 := cell_on Hy1.out Hg2.out b1 HMid.out.nb
        replace b2 := cell_on Hy1.out Hg2.out b2 HMid.out.nb
        replace b3 := cell_on Hy1.out Hg2.out b3 HMid.out.nb
        replace b4 := cell_on Hy1.out Hg2.out b4 HMid.out.nb
        replace b5 := cell_on Hy1.out Hg2.out b5 HMid.out.nb
        replace b6 := cell_on Hy1.out Hg2.out b6 HMid.out.nb
        replace b7 := cell_on Hy1.out Hg2.out b7 HMid.out.nb
        replace b8 := cell_on Hy1.out Hg2.out b8 HMid.out.nb
        replace b9 := cell_on Hy1.out Hg2.out b9 HMid.out.nb
        replace f0 := cell_on Hy1.out Hg2.out f0 HMid.out.nf
        replace f1 := cell_on Hy1.out Hg2.out f1 HMid.out.nf
        replace f2 := cell_on Hy1.out Hg2.out f2 HMid.out.nf
        replace f3 := cell_on Hy1.out Hg2.out f3 HMid.out.nf
        replace f4 := cell_on Hy1.out Hg2.out f4 HMid.out.nf
        replace f5 := cell_on Hy1.out Hg2.out f5 HMid.out.nf
        replace f6 := cell_on Hy1.out Hg2.out f6 HMid.out.nf
        replace f7 := cell_on Hy1.out Hg2.out f7 HMid.out.nf
        replace f8 := cell_on Hy1.out Hg2.out f8 HMid.out.nf
        replace f9 := cell_on Hy1.out Hg2.out f9 HMid.out.nf
        have kx := hS2.2.2.2.1
        have Hbase : Hid (∀ b, (some m1) = some b → y2.ownsMap Try.prog 9 keyR b kn ((DD N F kn).del (kl nm))) := fun b hb => (own_below (HMid.out.base b hb) Hy1.out).kept Hg2.out (fun e => HMid.out.nm b hb (by cases e; rfl))
        have HBY : Hid (Below w.heap.size w y2) := (chainB HBW.out Hy1.out (Nat.le_refl _)).grown Hg2.out (chainB HBW.out Hy1.out (Nat.le_refl _)).size (fun k hk => by cases hk; exact HB2.out)
        have hP := hot_full (km1 := (some m1)) (kf := kf) (b2 := m2) (nm := nm) (DD_isMap N F kn) Hfr1.out Hfr2.out Hta1.out Hta2.out (fun h => nomatch h)
        clear hS0 hS1 hS2 hrun hp' k0 k1 k2 k3
        go_wp2_with fail
        by_cases hPb : fr1.isSome = true ∨ ta1.isSome = true ∨ (((some m1) : Option Nat).isSome = true ∧ Hot ((DD N F kn).del (kl nm)))
        · have Hf : Hid _ := hP.2 (.inl hPb)
          have Hb : Hid _ := hPb
          clear hP hPb
          first
            | go_region_with (first
              | (go_at_call_of 8 fr2; refine (chg_yes _ _ _ _ _ _ _ _ _ _ _ _ _ _ _ _ (kn + 1) _ _ ?_ Hf.out).mono ?_; (intro b hb; cases hb; exact World.ownsMap.drew Hown2.out); rintro e z1 ⟨rfl, hz1⟩; (replace hz1 := undrew hz1); (have b0z := kept_cell hz1 b0); (have b1z := kept_cell hz1 b1); (have b2z := kept_cell hz1 b2); (have b3z := kept_cell hz1 b3); (have b4z := kept_cell hz1 b4); (have b5z := kept_cell hz1 b5); (have b6z := kept_cell hz1 b6); (have b7z := kept_cell hz1 b7); (have b8z := kept_cell hz1 b8); (have b9z := kept_cell hz1 b9); (have kxz := kept_cell hz1 kx))
              | (go_at_call_of 8 fr1; refine (chg_yes _ _ _ _ _ _ _ _ _ _ _ _ _ _ _ _ kn _ _ ?_ Hb.out).mono ?_; (intro b hb; exact own_below (Hbase.out b hb) hz1); rintro e z2 ⟨rfl, hz2⟩; (have hz3 := chainB (chainB HBY.out hz1 (Nat.le_refl _)) hz2 (Nat.le_refl _)); (have kxw := kept_cell hz2 kxz)))
            | fail
          all_goals (go_wp2; go_ret; exact ⟨rfl, hz3⟩)
        · have Hb : Hid _ := hPb
          cases kf with
          | some kfx =>
            have Hf : Hid _ := hP.2 (.inr rfl)
            clear hP hPb
            first
              | go_region_with (first
                | (go_at_call_of 8 fr2; refine (chg_yes _ _ _ _ _ _ _ _ _ _ _ _ _ _ _ _ (kn + 1) _ _ ?_ Hf.out).mono ?_; (intro b hb; cases hb; exact World.ownsMap.drew Hown2.out); rintro e z1 ⟨rfl, hz1⟩; (replace hz1 := undrew hz1); (have b0z := kept_cell hz1 b0); (have b1z := kept_cell hz1 b1); (have b2z := kept_cell hz1 b2); (have b3z := kept_cell hz1 b3); (have b4z := kept_cell hz1 b4); (have b5z := kept_cell hz1 b5); (have b6z := kept_cell hz1 b6); (have b7z := kept_cell hz1 b7); (have b8z := kept_cell hz1 b8); (have b9z := kept_cell hz1 b9); (have kxz := kept_cell hz1 kx))
                | (go_at_call_of 8 fr1; refine (chg_no _ _ _ _ _ _ _ _ _ _ _ _ _ _ _ _ kn _ _ ?_ Hb.out).mono ?_; (intro b hb; exact own_below (Hbase.out b hb) hz1); rintro e z2 ⟨rfl, hz2⟩; (have hz3 := chainB (chainB HBY.out hz1 (Nat.le_refl _)) hz2 (Nat.le_refl _)); (have kxw := kept_cell hz2 kxz)))
              | fail
            all_goals (go_wp2; go_ret; exact ⟨rfl, hz3⟩)
          | none =>
            have Hf : Hid (¬ _) := fun h => (hP.1 h).elim hPb (fun h => by cases h)
            clear hP hPb
            first
              | go_region_with (first
                | (go_at_call_of 8 fr2; refine (chg_no _ _ _ _ _ _ _ _ _ _ _ _ _ _ _ _ (kn + 1) _ _ ?_ Hf.out).mono ?_; (intro b hb; cases hb; exact World.ownsMap.drew Hown2.out); rintro e z1 ⟨rfl, hz1⟩; (replace hz1 := undrew hz1); (have b0z := kept_cell hz1 b0); (have b1z := kept_cell hz1 b1); (have b2z := kept_cell hz1 b2); (have b3z := kept_cell hz1 b3); (have b4z := kept_cell hz1 b4); (have b5z := kept_cell hz1 b5); (have b6z := kept_cell hz1 b6); (have b7z := kept_cell hz1 b7); (have b8z := kept_cell hz1 b8); (have b9z := kept_cell hz1 b9); (have kxz := kept_cell hz1 kx))
                | (go_at_call_of 8 fr1; refine (chg_no _ _ _ _ _ _ _ _ _ _ _ _ _ _ _ _ kn _ _ ?_ Hb.out).mono ?_; (intro b hb; exact own_below (Hbase.out b hb) hz1); rintro e z2 ⟨rfl, hz2⟩; (have hz3 := chainB (chainB HBY.out hz1 (Nat.le_refl _)) hz2 (Nat.le_refl _)); (have kxw := kept_cell hz2 kxz)))
              | fail
            all_goals (go_wp2; go_ret; exact ⟨rfl, hz3⟩)
      · refine (add_no _ _ _ (by omega) (by omega) (by omega) hs).mono ?_
        rintro e w' ⟨⟨mm, rfl⟩, hw⟩
        subst w'
        go_wp2
        go_ret
        exact ⟨rfl, HBW.out⟩
    · go_wp2
      go_ret
      exact ⟨rfl, HBW.out⟩
  · go_wp2
    go_ret
    exact ⟨rfl, HBW.out⟩

end Go.Proofs.Qxb6627953a
