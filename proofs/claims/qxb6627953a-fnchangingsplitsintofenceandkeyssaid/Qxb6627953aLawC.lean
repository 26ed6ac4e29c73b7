/-
  THE FIRST LAW's WALK of seat b6627953a (function 3, FnChangingSplitsIntoFenceAndKeys).
-/
import Derived.Test.Qxb6627953aHot
import Derived.Test.Qxb6627953aBytes5
namespace Go.Proofs.Qxb6627953a
open Go.RowKit Go.Maps

theorem zero43 (w : World) : (zeroValue 43).run Try.prog w = .ok (.agg #[.int .i64 0, .int .i64 0, .pointer none, .slice none 0 0]) w := by kernel_rfl

/-- 'm[name]' AT THE OPERATION, for the walk. -/
theorem wp_lookup_key (w : World) {ops : Array Oper} {rest : List Oper} {o : Oper} {a : Act} {Q : Exit → Act → World → Prop} (hg : o.guard = none) (m x : Operand) (hop : o.op = Op.lookup 33 m x false)
    (b n : Nat) (D : DataW Unit) (hm : a.eval m = .map (some b)) (hown : w.ownsMap Try.prog 9 keyR b n D) (s : ByteArray) (hx : a.eval x = .string s) (hs : s.size ≤ maxLen)
    (hK : ∀ r q p aa nn cc, D.atKey (kl s) (bd false) = bd p.isSome → wpList Try.prog ops Q rest (a.put o.dst (.agg #[.int .i64 r, .int .i64 q, .pointer p, .slice aa nn cc])) w) : wpList Try.prog ops Q (o :: rest) a w := by
  refine wpList_plain hg fun K' hK' => ?_
  obtain ⟨v, ps, hrun, hv⟩ := hown.lookup law Try.underlying33 (zero43 w) (keyR_mk 0 0 none none 0 0) (key9 hs)
  obtain ⟨r, q, p, aa, nn, cc, rfl, hy⟩ := keyR_inv hv
  unfold Oper.wp
  simp [execOp, hop, hm, hx, hrun, Result.andThen]
  exact hK' _ _ (hK r q p aa nn cc (congrArg Prod.fst hy))

theorem no_key {D : DataW Unit} {N : Nat → ByteArray} : false = true ↔ ∃ j, j < 0 ∧ D.atKey (kl (N j)) (bd false) = bd true := Iff.intro (fun h => by cases h) (fun ⟨_, hj, _⟩ => absurd hj (Nat.not_lt_zero _))

theorem one_key {r3 b : Bool} {k : ByteArray} {g : Nat} (h : r3 = true ↔ (Option.isSome (none : Option Addr) = true ∨ Option.isSome (none : Option Addr) = true ∨ ((some g : Option Nat).isSome = true ∧ Hot ((DataW.map []).put (kl k) (bd b))))) : r3 = b := by
  rw [hot_one _ (kl_key k)] at h
  rw [Bool.eq_iff_iff]
  simpa using h

theorem key_no {D : DataW Unit} {N : Nat → ByteArray} {k : Nat} {a : Bool} (h : a = true ↔ ∃ j, j < k ∧ D.atKey (kl (N j)) (bd false) = bd true) (hat : D.atKey (kl (N k)) (bd false) = bd false) :
    a = true ↔ ∃ j, j < k + 1 ∧ D.atKey (kl (N j)) (bd false) = bd true := by
  rw [h]
  refine Iff.intro (fun ⟨j, hj, e⟩ => ⟨j, by omega, e⟩) (fun ⟨j, hj, e⟩ => ?_)
  by_cases ej : j = k
  · rw [ej, hat] at e; exact (bd_ne (h := e)).elim
  · exact ⟨j, by omega, e⟩

theorem key_yes {D : DataW Unit} {N : Nat → ByteArray} {k : Nat} (hat : D.atKey (kl (N k)) (bd false) = bd true) :
    true = true ↔ ∃ j, j < k + 1 ∧ D.atKey (kl (N j)) (bd false) = bd true := Iff.intro (fun _ => ⟨k, Nat.lt_succ_self k, hat⟩) (fun _ => rfl)

theorem last_key {N : Nat → ByteArray} {F : Nat → Option Addr} {n c : Nat} {a r2 : Bool} {km : Option Nat} {ka : Option Addr} (h : a = true ↔ ∃ j, j < n ∧ (DD N F n).atKey (kl (N j)) (bd false) = bd true) (h2 : r2 = true ↔ (km.isSome = true ∧ Hot (DD N F n)))
    (hk : km.isSome = ka.isSome) (hn : ka = none → n = 0 ∧ c = 0) : a = r2 := by
  rw [← hot_iff] at h
  rw [Bool.eq_iff_iff, h, h2]
  refine Iff.intro (fun hh => ⟨?_, hh⟩) (fun hh => hh.2)
  cases ka with
  | some x => rw [hk]; rfl
  | none =>
    obtain ⟨rfl, _⟩ := hn rfl
    obtain ⟨i, hi, _⟩ := (hot_iff N F 0).1 hh
    exact absurd hi (Nat.not_lt_zero _)

theorem whole_key {N : Nat → ByteArray} {F : Nat → Option Addr} {n : Nat} {r1 r2 : Bool} {km : Option Nat} {fr fr' ta ta' : Option Addr} (h1 : r1 = true ↔ (fr'.isSome = true ∨ ta'.isSome = true ∨ (km.isSome = true ∧ Hot (DD N F n)))) (h2 : r2 = true ↔ (km.isSome = true ∧ Hot (DD N F n)))
    (e1 : fr'.isSome = fr.isSome) (e2 : ta'.isSome = ta.isSome) : r1 = (fr.isSome || (ta.isSome || r2)) := by
  rw [Bool.eq_iff_iff, h1, e1, e2, ← h2]
  simp

set_option maxHeartbeats 4000000 in
set_option maxRecDepth 100000 in
theorem lawC (num ep : Int) (na : Option Addr) (nn nc : Nat) (rd wr : Int) (fr ta : Option Addr) (tn tc : Nat) (la : Option Addr) (ln lc : Nat) (ka : Option Addr) (kn kc : Nat) (hm : Bool)
    (SN ST N : Nat → ByteArray) (F fa : Nat → Option Addr) (fn fc : Nat → Nat) (w : World) (hN : StrSl w na nn nc SN) (hq : Quo w fr) (hT : StrSl w ta tn tc ST) (hF : FlSl w la ln lc) (hK : KeySl w ka kn kc N F fa fn fc) :
    Calls Try.prog 3 #[.agg #[.int .u64 num, .int .u64 ep, .slice na nn nc, .int .i64 rd, .int .i64 wr, .pointer fr, .slice ta tn tc, .slice la ln lc, .slice ka kn kc, .bool hm]] w fun e w' => e = .returned (.bool true) ∧ Below w.heap.size w w' := by
  have HN : Hid (StrSl w na nn nc SN) := hN
  have Hq : Hid (Quo w fr) := hq
  have HT : Hid (StrSl w ta tn tc ST) := hT
  have HF : Hid (FlSl w la ln lc) := hF
  have HK : Hid (KeySl w ka kn kc N F fa fn fc) := hK
  clear hN hq hT hF hK
  go_enter Try.func3, Try.ntmps3
  go_wp2_with fail
  obtain ⟨W, hW⟩ : ∃ W, W = w.alloc (Obj.cells #[Value.int .u64 num, Value.int .u64 ep, Value.slice na nn nc, Value.int .i64 rd, Value.int .i64 wr, Value.pointer fr, Value.slice ta tn tc, Value.slice la ln lc, Value.slice ka kn kc, Value.bool hm] 28) := ⟨_, rfl⟩
  rw [← hW]
  have HBW : Hid (Below w.heap.size w W) := by rw [hW]; exact (Below.refl _ _).alloc (Nat.le_refl _) _
  have hWs : w.heap.size + 1 ≤ W.heap.size := by rw [hW]; simp
  have c0 : W.cell? ⟨w.heap.size, 0, none⟩ = some (.int .u64 num) := by rw [hW]; simp
  have c1 : W.cell? ⟨w.heap.size, 1, none⟩ = some (.int .u64 ep) := by rw [hW]; simp
  have c2 : W.cell? ⟨w.heap.size, 2, none⟩ = some (.slice na nn nc) := by rw [hW]; simp
  have c3 : W.cell? ⟨w.heap.size, 3, none⟩ = some (.int .i64 rd) := by rw [hW]; simp
  have c4 : W.cell? ⟨w.heap.size, 4, none⟩ = some (.int .i64 wr) := by rw [hW]; simp
  have c5 : W.cell? ⟨w.heap.size, 5, none⟩ = some (.pointer fr) := by rw [hW]; simp
  have c6 : W.cell? ⟨w.heap.size, 6, none⟩ = some (.slice ta tn tc) := by rw [hW]; simp
  have c7 : W.cell? ⟨w.heap.size, 7, none⟩ = some (.slice la ln lc) := by rw [hW]; simp
  have c8 : W.cell? ⟨w.heap.size, 8, none⟩ = some (.slice ka kn kc) := by rw [hW]; simp
  have c9 : W.cell? ⟨w.heap.size, 9, none⟩ = some (.bool hm) := by rw [hW]; simp
  clear hW
  refine (bytes5 num ep na nn nc rd wr fr ta tn tc la ln lc ka kn kc hm SN ST N F fa fn fc W (HN.out.keep HBW.out) (HT.out.keep HBW.out) HF.out.le (HK.out.keep HBW.out)).mono ?_
  rintro e w1 ⟨r, rfl, hb1, _⟩
  cases r with
  | false =>
    go_wp2
    go_ret
    exact ⟨rfl, chainB HBW.out hb1 (Nat.le_refl _)⟩
  | true =>
    replace c0 := kept_cell hb1 c0
    replace c1 := kept_cell hb1 c1
    replace c2 := kept_cell hb1 c2
    replace c3 := kept_cell hb1 c3
    replace c4 := kept_cell hb1 c4
    replace c5 := kept_cell hb1 c5
    replace c6 := kept_cell hb1 c6
    replace c7 := kept_cell hb1 c7
    replace c8 := kept_cell hb1 c8
    replace c9 := kept_cell hb1 c9
    have hs1 := hb1.size
    replace HBW : Hid (Below w.heap.size w w1) := chainB HBW.out hb1 (Nat.le_refl _)
    clear hb1
    go_wp2_with fail
    refine (big_any num ep na nn nc rd wr fr ta tn tc la ln lc ka kn kc hm 0 SN ST N F fa fn fc w1 (HN.out.keep HBW.out) (HT.out.keep HBW.out) HF.out.le (HK.out.keep HBW.out) (Int.le_refl _)).mono ?_
    rintro e w2 ⟨r, rfl, hb2, htb⟩
    cases r with
    | true =>
      go_wp2
      go_ret
      exact ⟨rfl, chainB HBW.out hb2 (Nat.le_refl _)⟩
    | false =>
    obtain ⟨bN, bT, bF, bK, bfn⟩ := htb rfl
    have Hbf : Hid (∀ i, i < kn → fn i ≤ 1048576) := bfn
    clear htb bfn
    replace c0 := kept_cell hb2 c0
    replace c1 := kept_cell hb2 c1
    replace c2 := kept_cell hb2 c2
    replace c3 := kept_cell hb2 c3
    replace c4 := kept_cell hb2 c4
    replace c5 := kept_cell hb2 c5
    replace c6 := kept_cell hb2 c6
    replace c7 := kept_cell hb2 c7
    replace c8 := kept_cell hb2 c8
    replace c9 := kept_cell hb2 c9
    have hs2 := hb2.size
    replace HBW : Hid (Below w.heap.size w w2) := chainB HBW.out hb2 (Nat.le_refl _)
    clear hb2
    go_wp2_with fail
    refine (config_any num ep na nn nc rd wr fr ta tn tc la ln lc ka kn kc hm SN ST N F fa fn fc w2 (HN.out.keep HBW.out) (Hq.out.keep HBW.out) (HT.out.keep HBW.out) (HF.out.keep HBW.out) (HK.out.keep HBW.out) bN bT bF bK Hbf.out).mono ?_
    rintro e w3 ⟨⟨na', nc', fr', ta', tc', la', lc', km, rfl, hfr, hta, hkm, hmap⟩, hb3⟩
    replace c0 := kept_cell hb3 c0
    replace c1 := kept_cell hb3 c1
    replace c2 := kept_cell hb3 c2
    replace c3 := kept_cell hb3 c3
    replace c4 := kept_cell hb3 c4
    replace c5 := kept_cell hb3 c5
    replace c6 := kept_cell hb3 c6
    replace c7 := kept_cell hb3 c7
    replace c8 := kept_cell hb3 c8
    replace c9 := kept_cell hb3 c9
    have hs3 := hb3.size
    replace HBW : Hid (Below w.heap.size w w3) := chainB HBW.out hb3 (Nat.le_refl _)
    have HM : Hid (∀ b, km = some b → w3.ownsMap Try.prog 9 keyR b kn (DD N F kn)) := fun b hb => (hmap b hb).2
    have Hfr : Hid (fr'.isSome = fr.isSome) := hfr
    have Hta : Hid (ta'.isSome = ta.isSome) := hta
    have Hkm : Hid (km.isSome = ka.isSome) := hkm
    clear hb3 hmap hfr hta hkm
    clear c0 c1 c2 c3 c4 c7 c9
    go_wp2_with fail
    obtain ⟨W3, hW3⟩ : ∃ W3, W3 = w3.alloc (Obj.cells #[Value.int .u64 num, Value.int .u64 ep, Value.slice na' nn nc', Value.int .i64 rd, Value.int .i64 wr, Value.pointer fr', Value.slice ta' tn tc', Value.slice la' ln lc', Value.map km, Value.bool hm] 35) := ⟨_, rfl⟩
    rw [← hW3]
    have hB3 : Below w3.heap.size w3 W3 := by rw [hW3]; exact (Below.refl _ _).alloc (Nat.le_refl _) _
    have d8 : W3.cell? ⟨w3.heap.size, 8, none⟩ = some (.map km) := by rw [hW3]; simp
    clear hW3
    replace c5 := kept_cell hB3 c5
    replace c6 := kept_cell hB3 c6
    replace c8 := kept_cell hB3 c8
    replace HBW : Hid (Below w.heap.size w W3) := chainB HBW.out hB3 (Nat.le_refl _)
    replace HM : Hid (∀ b, km = some b → W3.ownsMap Try.prog 9 keyR b kn (DD N F kn)) := fun b hb => own_below (HM.out b hb) hB3
    clear hB3 hs1 hs2 hs3 hWs
    refine (chg_any num ep na' nn nc' rd wr fr' ta' tn tc' la' ln lc' km hm kn (DD N F kn) W3 HM.out).mono ?_
    rintro e w4 ⟨⟨r1, rfl, hr1⟩, hb4⟩
    have Hr1 : Hid (r1 = true ↔ (fr'.isSome = true ∨ ta'.isSome = true ∨ (km.isSome = true ∧ Hot (DD N F kn)))) := hr1
    replace c5 := kept_cell hb4 c5
    replace c6 := kept_cell hb4 c6
    replace c8 := kept_cell hb4 c8
    replace d8 := kept_cell hb4 d8
    replace HBW : Hid (Below w.heap.size w w4) := chainB HBW.out hb4 (Nat.le_refl _)
    replace HM : Hid (∀ b, km = some b → w4.ownsMap Try.prog 9 keyR b kn (DD N F kn)) := fun b hb => own_below (HM.out b hb) hb4
    clear hr1 hb4
    go_wp2_with fail
    obtain ⟨W4, hW4⟩ : ∃ W4, W4 = w4.alloc (Obj.cells #[Value.int .u64 0, Value.int .u64 0, Value.slice none 0 0, Value.int .i64 0, Value.int .i64 0, Value.pointer none, Value.slice none 0 0, Value.slice none 0 0, Value.map km, Value.bool false] 35) := ⟨_, rfl⟩
    rw [← hW4]
    have hB4 : Below w4.heap.size w4 W4 := by rw [hW4]; exact (Below.refl _ _).alloc (Nat.le_refl _) _
    clear hW4
    replace c5 := kept_cell hB4 c5
    replace c6 := kept_cell hB4 c6
    replace c8 := kept_cell hB4 c8
    replace d8 := kept_cell hB4 d8
    replace HBW : Hid (Below w.heap.size w W4) := chainB HBW.out hB4 (Nat.le_refl _)
    replace HM : Hid (∀ b, km = some b → W4.ownsMap Try.prog 9 keyR b kn (DD N F kn)) := fun b hb => own_below (HM.out b hb) hB4
    clear hB4
    refine (chg_any _ _ _ _ _ _ _ _ _ _ _ _ _ _ _ _ kn (DD N F kn) W4 HM.out).mono ?_
    rintro e w5 ⟨⟨r2, rfl, hr2⟩, hb5⟩
    have Hr2 : Hid (r2 = true ↔ (km.isSome = true ∧ Hot (DD N F kn))) := by
      show r2 = true ↔ (km.isSome = true ∧ Hot (DD N F kn))
      simpa using hr2
    replace c5 := kept_cell hb5 c5
    replace c6 := kept_cell hb5 c6
    replace c8 := kept_cell hb5 c8
    replace d8 := kept_cell hb5 d8
    replace HBW : Hid (Below w.heap.size w w5) := chainB HBW.out hb5 (Nat.le_refl _)
    replace HM : Hid (∀ b, km = some b → w5.ownsMap Try.prog 9 keyR b kn (DD N F kn)) := fun b hb => own_below (HM.out b hb) hb5
    clear hr2 hb5
    have hg5 : w.heap.size < w5.heap.size := World.block_lt_of_cell? w5 _ c5
    have hmm := @run_makeMap Try.prog
    go_wp2_with fail
    go_loopw [7, 8] (fun ak i wq => ∃ (k : Nat) (a : Bool), k ≤ kn ∧ i = .int .i64 k ∧ ak = .bool a ∧ Hid (a = true ↔ ∃ j, j < k ∧ (DD N F kn).atKey (kl (N j)) (bd false) = bd true) ∧ Below w5.heap.size w5 wq) (fun _ i _ => kn - (intOf i).toNat)
    case atStart => exact ⟨0, false, Nat.zero_le _, rfl, rfl, no_key, Below.refl _ _⟩
    case round =>
      obtain ⟨k, a, hk, rfl, rfl, Ha, hB⟩ := hrel
      have c5r := kept_cell hB c5
      have c6r := kept_cell hB c6
      have c8r := kept_cell hB c8
      have d8r := kept_cell hB d8
      by_cases hlt : k < kn
      · obtain ⟨b, o, r, q, hx, e0, _⟩ := (HK.out.keep (chainB HBW.out hB (Nat.le_refl _))).cell k hlt
        have hnm := HK.out.name k hlt
        obtain ⟨bm, hbm⟩ : ∃ bm, km = some bm := by
          have := Hkm.out
          rw [hx] at this
          cases km with
          | none => cases this
          | some bm => exact ⟨bm, rfl⟩
        have Hown : Hid (wr.ownsMap Try.prog 9 keyR bm kn (DD N F kn)) := own_below (HM.out bm hbm) hB
        subst hx
        subst hbm
        have d8' := old_cell d8r
        obtain ⟨nm, hnm'⟩ : ∃ nm, nm = N k := ⟨_, rfl⟩
        rw [← hnm'] at e0 hnm
        have Hnm : Hid (nm = N k) := hnm'
        clear hnm' c5 c6 c8 d8 d8r
        go_wp2_with (at_lookup; refine wp_lookup_key _ rfl _ _ rfl bm kn (DD N F kn) rfl (Hown.out.alloc _) nm rfl hnm ?_; intro rr qq p aa n2 c2 hat; (obtain ⟨w6, hrun6, hown6, hg6⟩ := (World.ownsMap_made wr Try.prog 9 keyR).update law Try.underlying33 (by unfold maxLen; omega) (key9 hnm) (keyR_mk rr qq p aa n2 c2)))
        refine (chg_any _ _ _ _ _ _ _ _ _ _ _ _ _ _ _ _ 1 ((DataW.map []).put (kl nm) (bd p.isSome)) _ (fun b hb => by cases hb; exact hown6.alloc _)).mono ?_
        rintro e w7 ⟨⟨r3, rfl, hr3⟩, hb7⟩
        have Hr3 : Hid (r3 = p.isSome) := one_key hr3
        have hB6 : Below w5.heap.size w5 w6 := (hB.alloc hB.size _).grown hg6 (by have := hB.size; simp; omega) (fun j hj => by cases hj; exact hB.size)
        have hB7 := chainB (hB6.alloc hB6.size _) hb7 (Nat.le_refl _)
        have Hat : Hid ((DD N F kn).atKey (kl (N k)) (bd false) = bd p.isSome) := by rw [← Hnm.out]; exact hat
        clear hat hr3 hb7 hB6 hg6 hown6 hrun6
        cases r3 with
        | false =>
          go_wp2
          go_roundw
          case rel => exact ⟨k + 1, a, by omega, by go_num, rfl, key_no Ha.out (by rw [Hat.out, ← Hr3.out]), hB7⟩
          case measure => simp [intOf]; omega
        | true =>
          go_wp2
          go_roundw
          case rel => exact ⟨k + 1, true, by omega, by go_num, rfl, key_yes (by rw [Hat.out, ← Hr3.out]), hB7⟩
          case measure => simp [intOf]; omega
      · obtain rfl : k = kn := by omega
        have ea : a = r2 := last_key Ha.out Hr2.out Hkm.out (HK.out.nil)
        have er : r1 = (fr.isSome || (ta.isSome || r2)) := whole_key Hr1.out Hr2.out Hfr.out Hta.out
        subst ea
        subst er
        have hs23 := Try.ne23
        cases fr with
        | some x =>
          cases a
          all_goals
            go_wp2
            go_ret
            exact ⟨rfl, chainB HBW.out hB (Nat.le_refl _)⟩
        | none =>
          cases ta with
          | some x =>
            cases a
            all_goals
              go_wp2
              go_ret
              exact ⟨rfl, chainB HBW.out hB (Nat.le_refl _)⟩
          | none =>
            cases a
            all_goals
              go_wp2
              go_ret
              exact ⟨rfl, chainB HBW.out hB (Nat.le_refl _)⟩
end Go.Proofs.Qxb6627953a
