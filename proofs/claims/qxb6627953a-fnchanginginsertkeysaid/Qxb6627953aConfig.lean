/-
  WALKS for seat b6627953a: zzConfig (7).
-/
import Derived.Test.Qxb6627953aMap
import Derived.Maps.OwnSet
namespace Go.Proofs.Qxb6627953a
open Go.RowKit Go.Maps

theorem showS10 {W w' : World} {g : Nat} {v0 v1 v2 v3 v4 v5 v6 v7 v8 v9 : Value} (c0 : W.cell? ⟨g, 0, none⟩ = some v0) (c1 : W.cell? ⟨g, 1, none⟩ = some v1) (c2 : W.cell? ⟨g, 2, none⟩ = some v2) (c3 : W.cell? ⟨g, 3, none⟩ = some v3) (c4 : W.cell? ⟨g, 4, none⟩ = some v4) (c5 : W.cell? ⟨g, 5, none⟩ = some v5) (c6 : W.cell? ⟨g, 6, none⟩ = some v6) (c7 : W.cell? ⟨g, 7, none⟩ = some v7) (c8 : W.cell? ⟨g, 8, none⟩ = some v8) (c9 : W.cell? ⟨g, 9, none⟩ = some v9) (hb : Below (g + 1) W w') :
    w'.cell? ⟨g, 0, none⟩ = some v0 ∧ w'.cell? ⟨g, 1, none⟩ = some v1 ∧ w'.cell? ⟨g, 2, none⟩ = some v2 ∧ w'.cell? ⟨g, 3, none⟩ = some v3 ∧ w'.cell? ⟨g, 4, none⟩ = some v4 ∧ w'.cell? ⟨g, 5, none⟩ = some v5 ∧ w'.cell? ⟨g, 6, none⟩ = some v6 ∧ w'.cell? ⟨g, 7, none⟩ = some v7 ∧ w'.cell? ⟨g, 8, none⟩ = some v8 ∧ w'.cell? ⟨g, 9, none⟩ = some v9 ∧ Below (g + 1) W w' :=
  have hg : g < g + 1 := Nat.lt_succ_self g
  ⟨(hb.cell (p := ⟨g, 0, none⟩) hg).trans c0, (hb.cell (p := ⟨g, 1, none⟩) hg).trans c1, (hb.cell (p := ⟨g, 2, none⟩) hg).trans c2, (hb.cell (p := ⟨g, 3, none⟩) hg).trans c3, (hb.cell (p := ⟨g, 4, none⟩) hg).trans c4, (hb.cell (p := ⟨g, 5, none⟩) hg).trans c5, (hb.cell (p := ⟨g, 6, none⟩) hg).trans c6, (hb.cell (p := ⟨g, 7, none⟩) hg).trans c7, (hb.cell (p := ⟨g, 8, none⟩) hg).trans c8, (hb.cell (p := ⟨g, 9, none⟩) hg).trans c9, hb⟩

set_option maxHeartbeats 2000000 in
set_option maxRecDepth 100000 in
theorem config_any (num ep : Int) (na : Option Addr) (nn nc : Nat) (rd wr : Int) (fr ta : Option Addr) (tn tc : Nat) (la : Option Addr) (ln lc : Nat) (ka : Option Addr) (kn kc : Nat) (hm : Bool)
    (SN ST N : Nat → ByteArray) (F fa : Nat → Option Addr) (fn fc : Nat → Nat) (w : World) (hN : StrSl w na nn nc SN) (hq : Quo w fr) (hT : StrSl w ta tn tc ST) (hF : FlSl w la ln lc) (hK : KeySl w ka kn kc N F fa fn fc)
    (bN : nn ≤ 1048576) (bT : tn ≤ 1048576) (bF : ln ≤ 1048576) (bK : kn ≤ 1048576) (bfn : ∀ i, i < kn → fn i ≤ 1048576) :
    Calls Try.prog 7 #[.agg #[.int .u64 num, .int .u64 ep, .slice na nn nc, .int .i64 rd, .int .i64 wr, .pointer fr, .slice ta tn tc, .slice la ln lc, .slice ka kn kc, .bool hm]] w fun e w' =>
      (∃ na' nc' fr' ta' tc' la' lc' km, e = .returned (.agg #[.int .u64 num, .int .u64 ep, .slice na' nn nc', .int .i64 rd, .int .i64 wr, .pointer fr', .slice ta' tn tc', .slice la' ln lc', .map km, .bool hm]) ∧ fr'.isSome = fr.isSome ∧ ta'.isSome = ta.isSome ∧
        km.isSome = ka.isSome ∧ ∀ b, km = some b → w.heap.size ≤ b ∧ w'.ownsMap Try.prog 9 keyR b kn (DD N F kn)) ∧ Below w.heap.size w w' := by
  have HN : Hid (StrSl w na nn nc SN) := hN
  have Hq : Hid (Quo w fr) := hq
  have HT : Hid (StrSl w ta tn tc ST) := hT
  have HF : Hid (FlSl w la ln lc) := hF
  have HK : Hid (KeySl w ka kn kc N F fa fn fc) := hK
  have Hbf : Hid (∀ i, i < kn → fn i ≤ 1048576) := bfn
  clear hN hq hT hF hK bfn
  go_enter Try.func7, Try.ntmps7
  go_wp2_with fail
  obtain ⟨W, hW⟩ : ∃ W, W = (w.alloc (Obj.cells #[Value.int .u64 num, Value.int .u64 ep, Value.slice na nn nc, Value.int .i64 rd, Value.int .i64 wr, Value.pointer fr, Value.slice ta tn tc, Value.slice la ln lc, Value.slice ka kn kc, Value.bool hm] 28)).alloc (Obj.cells #[Value.int .u64 0, Value.int .u64 0, Value.slice none 0 0, Value.int .i64 0, Value.int .i64 0, Value.pointer none, Value.slice none 0 0, Value.slice none 0 0, Value.map none, Value.bool false] 35) := ⟨_, rfl⟩
  rw [← hW]
  have hsz : w.heap.size + 2 ≤ W.heap.size := by rw [hW]; simp
  have HBW : Hid (Below w.heap.size w W) := by rw [hW]; exact ((Below.refl _ _).alloc (Nat.le_refl _) _).alloc (by simp) _
  have c0 : W.cell? ⟨w.heap.size, 0, none⟩ = some (.int .u64 num) := by rw [hW]; simp
  have c1 : W.cell? ⟨w.heap.size, 1, none⟩ = some (.int .u64 ep) := by rw [hW]; simp
  have c2 : W.cell? ⟨w.heap.size, 2, none⟩ = some (.slice na nn nc) := by rw [hW]; simp
  have c3 : W.cell? ⟨w.heap.size, 3, none⟩ = some (.int .i64 rd) := by rw [hW]; simp
  have c4 : W.cell? ⟨w.heap.size, 4, none⟩ = some (.int .i64 wr) := by rw [hW]; simp
  have c5 : W.cell? ⟨w.heap.size, 5, none⟩ = some (.pointer fr) := by rw [hW]; simp
  have c6 : W.cell? ⟨w.heap.size, 6, none⟩ = some (.slice ta tn tc) := by rw [hW]; simp
  have c7 : W.cell? ⟨w.heap.size, 7, none⟩ = some (.slice la ln lc) := by rw [hW]; simp
  have c8 : W.cell? ⟨w.heap.size, 8, none⟩ = some (.slice ka kn kc) := by rw [hW]; simp
  have c9 : W.cell? ⟨w.heap.size, 9, none⟩ = some (.bool hm) := by rw [hW]; simp
  have Hd : Hid ((∀ j, j < 10 → (W.cell? ⟨w.heap.size + 1, j, none⟩).isSome = true ∧ W.frozen? ⟨w.heap.size + 1, j, none⟩ = false)) := by
    intro j hj
    rw [hW]
    match j, hj with
    | 0, _ => simp
    | 1, _ => simp
    | 2, _ => simp
    | 3, _ => simp
    | 4, _ => simp
    | 5, _ => simp
    | 6, _ => simp
    | 7, _ => simp
    | 8, _ => simp
    | 9, _ => simp
  clear hW
  go_region_held3 (fun w' => w'.cell? ⟨w.heap.size, 0, none⟩ = some (.int .u64 num) ∧ w'.cell? ⟨w.heap.size, 1, none⟩ = some (.int .u64 ep) ∧ w'.cell? ⟨w.heap.size, 2, none⟩ = some (.slice na nn nc) ∧ w'.cell? ⟨w.heap.size, 3, none⟩ = some (.int .i64 rd) ∧ w'.cell? ⟨w.heap.size, 4, none⟩ = some (.int .i64 wr) ∧ w'.cell? ⟨w.heap.size, 5, none⟩ = some (.pointer fr) ∧ w'.cell? ⟨w.heap.size, 6, none⟩ = some (.slice ta tn tc) ∧ w'.cell? ⟨w.heap.size, 7, none⟩ = some (.slice la ln lc) ∧ w'.cell? ⟨w.heap.size, 8, none⟩ = some (.slice ka kn kc) ∧ w'.cell? ⟨w.heap.size, 9, none⟩ = some (.bool hm) ∧ Below (w.heap.size + 1) W w')
    ((refine showS10 c0 c1 c2 c3 c4 c5 c6 c7 c8 c9 ?_; first | with_reducible exact hB1 | with_reducible exact hB2 | with_reducible exact hB3 | with_reducible exact hB4 | with_reducible exact hB5 | with_reducible exact (Below.refl _ _).drew | with_reducible exact ((((((((((hB5.setCell (by simp) _).setCell (by simp) _).setCell (by simp) _).setCell (by simp) _).setCell (by simp) _).setCell (by simp) _).setCell (by simp) _).setCell (by simp) _).setCell (by simp) _).setCell (by simp) _)))
    (first
      | (go_at_call_of 12 na; refine (strs_any _ _ _ SN _ ?_ bN).mono ?_; (exact HN.out.keep (HBW.out.trans ((Below.refl _ _).drew))); rintro e w1 ⟨⟨na', nc', rfl, hna'⟩, hb1⟩; (have hB1 := chainB ((Below.refl (w.heap.size + 1) W).drew) hb1 (by omega)); (have HD1 : Hid _ := chainB ((Below.refl (w.heap.size + 2) W).drew) hb1 (by omega)); clear hb1)
      | (go_at_call 13; refine (quo_any _ _ ?_).mono ?_; (exact Hq.out.keep (HBW.out.trans (hB1.mono (by omega)))); rintro e w2 ⟨⟨fr', rfl, hfr'⟩, hb2⟩; (have hB2 := chainB hB1 hb2 (by omega)); (have HD2 : Hid _ := chainB HD1.out hb2 (by omega)); clear hb2 hB1 HD1)
      | (go_at_call_of 12 ta; refine (strs_any _ _ _ ST _ ?_ bT).mono ?_; (exact HT.out.keep (HBW.out.trans (hB2.mono (by omega)))); rintro e w3 ⟨⟨ta', tc', rfl, hta'⟩, hb3⟩; (have hB3 := chainB hB2 hb3 (by omega)); (have HD3 : Hid _ := chainB HD2.out hb3 (by omega)); clear hb3 hB2 HD2)
      | (go_at_call 14; refine (flo_any _ _ _ _ ?_ bF).mono ?_; (exact HF.out.keep (HBW.out.trans (hB3.mono (by omega)))); rintro e w4 ⟨⟨la', lc', rfl⟩, hb4⟩; (have hB4 := chainB hB3 hb4 (by omega)); (have HD4 : Hid _ := chainB HD3.out hb4 (by omega)); clear hb4 hB3 HD3)
      | (go_at_call 15; refine (keys_any _ _ _ N F fa fn fc _ ?_ bK Hbf.out).mono ?_; (exact HK.out.keep (HBW.out.trans (hB4.mono (by omega)))); rintro e w5 ⟨⟨km, rfl, hkm, hmap⟩, hb5⟩; (have hB5 := chainB hB4 hb5 (by omega)); (have hD5 := chainB HD4.out hb5 (by omega)); (have HM : Hid _ := hmap); (have hs4 := hB4.size); (obtain ⟨u0, d0, f0⟩ := res_cell hD5 Hd 0 (by omega)); (obtain ⟨u1, d1, f1⟩ := res_cell hD5 Hd 1 (by omega)); (obtain ⟨u2, d2, f2⟩ := res_cell hD5 Hd 2 (by omega)); (obtain ⟨u3, d3, f3⟩ := res_cell hD5 Hd 3 (by omega)); (obtain ⟨u4, d4, f4⟩ := res_cell hD5 Hd 4 (by omega)); (obtain ⟨u5, d5, f5⟩ := res_cell hD5 Hd 5 (by omega)); (obtain ⟨u6, d6, f6⟩ := res_cell hD5 Hd 6 (by omega)); (obtain ⟨u7, d7, f7⟩ := res_cell hD5 Hd 7 (by omega)); (obtain ⟨u8, d8, f8⟩ := res_cell hD5 Hd 8 (by omega)); (obtain ⟨u9, d9, f9⟩ := res_cell hD5 Hd 9 (by omega)); clear hb5 hB4 HD4 hD5 hmap))
  go_wp2
  refine bodyPost_ret (v := .agg #[.int .u64 num, .int .u64 ep, .slice na' nn nc', .int .i64 rd, .int .i64 wr, .pointer fr', .slice ta' tn tc', .slice la' ln lc', .map km, .bool hm]) (by simp [results, Try.results7, go_sem, d0, d1, d2, d3, d4, d5, d6, d7, d8, d9]) rfl ⟨⟨na', nc', fr', ta', tc', la', lc', km, rfl, hfr', hta', hkm, ?_⟩, ?_⟩
  · intro b hb
    obtain ⟨h1, h2⟩ := HM.out b hb
    refine ⟨by omega, ?_⟩
    iterate 10 refine World.ownsMap.setCell ?_ (by show b ≠ w.heap.size + 1; omega) _
    exact h2
  · refine HBW.out.trans ?_
    iterate 10 refine Below.setCell ?_ (by show w.heap.size ≤ w.heap.size + 1; omega) _
    exact hB5.mono (Nat.le_succ _)
end Go.Proofs.Qxb6627953a
