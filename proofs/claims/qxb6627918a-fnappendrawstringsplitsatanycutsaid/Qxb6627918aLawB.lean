/-
  THE SECOND LAW's WALK (function 4, FnAppendRawStringSplitsAtAnyCut) out of its callees' contracts.
-/
import Derived.Test.Qxb6627918aLawA
namespace Go.Proofs.Qxb6627918a
open Go.RowKit

/-- The whole and the first part agree up to the first part's closing quote. -/
theorem cut_lo (zs e1 e2 : List Int) (i : Nat) (h : i < zs.length + e1.length + 1) : (zs ++ 34 :: ((e1 ++ e2) ++ [34])).getD i 0 = (zs ++ 34 :: (e1 ++ [34])).getD i 0 := by
  have a1 : zs ++ 34 :: ((e1 ++ e2) ++ [34]) = (zs ++ 34 :: e1) ++ (e2 ++ [34]) := by simp
  have a2 : zs ++ 34 :: (e1 ++ [34]) = (zs ++ 34 :: e1) ++ [34] := by simp
  have hl : i < (zs ++ 34 :: e1).length := by simp; omega
  rw [a1, a2, List.getD, List.getD, List.getElem?_append_left hl, List.getElem?_append_left hl]

/-- Behind it the whole goes on as the second part does behind its opening quote. -/
theorem cut_hi (zs e1 e2 : List Int) (i : Nat) : (zs ++ 34 :: ((e1 ++ e2) ++ [34])).getD (zs.length + e1.length + i + 1) 0 = (([] : List Int) ++ 34 :: (e2 ++ [34])).getD (i + 1) 0 := by
  have a1 : zs ++ 34 :: ((e1 ++ e2) ++ [34]) = (zs ++ 34 :: e1) ++ (e2 ++ [34]) := by simp
  have hl : (zs ++ 34 :: e1).length = zs.length + e1.length + 1 := by simp; omega
  rw [a1, List.getD, List.getD, List.getElem?_append_right (by omega), hl, show zs.length + e1.length + i + 1 - (zs.length + e1.length + 1) = i by omega]
  simp

theorem own_base {w : World} {b b' : Nat} {e : TypeId} {size : Nat} {v : Value} {n : Nat} {xs : List Value} (h : w.ownsRow b e size v n xs) (hb : b' ≤ b) : w.ownsRow b' e size v n xs := by
  refine ⟨h.1, ?_⟩
  rcases h.2 with h2 | ⟨g, cap, cur, hv, hg, r⟩
  · exact .inl h2
  · exact .inr ⟨g, cap, cur, hv, Nat.le_trans hb hg, r⟩

/-- What becomes of an owned row while an appending call goes on elsewhere. -/
theorem kept_onto {w wr : World} {base b2 : Nat} {v0 v u : Value} {xs ys : List Int} (h : w.ownsRow b2 5 1 u ys.length (ys.map (Value.int .u8))) (hO : Onto w base v0 wr v xs) (hne : u.ownBlock = none ∨ u.ownBlock ≠ v0.ownBlock) :
    wr.ownsRow b2 5 1 u ys.length (ys.map (Value.int .u8)) := h.kept hO.grown hne

theorem apart {u v : Value} (h : ∀ k, u.ownBlock = some k → v.ownBlock = some k → False) : u.ownBlock = none ∨ u.ownBlock ≠ v.ownBlock := by
  cases hu : u.ownBlock with
  | none => exact .inl rfl
  | some k => exact .inr (fun e => h k hu e.symm)

theorem own_cells_n {w : World} {base : Nat} {v : Value} {xs : List Int} {n : Nat} (h : w.ownsRow base 5 1 v xs.length (xs.map (Value.int .u8))) (hn : xs.length = n) (hp : 0 < n) :
    ∃ g c, n ≤ c ∧ v = .slice (some ⟨g, 0, none⟩) n c ∧ ∀ i, i < n → w.cell? ⟨g, i, none⟩ = some (.int .u8 (xs.getD i 0)) := by
  subst hn
  obtain ⟨g, c, _, hc, hv, hcell⟩ := own_cells h hp
  exact ⟨g, c, hc, hv, hcell⟩

theorem size_add (s t : ByteArray) : (s ++ t).size = s.size + t.size := by simp

set_option maxHeartbeats 1000000 in
set_option maxRecDepth 100000 in
theorem lawB (v : Value) (zs : List Int) (s t : ByteArray) (w : World) (hr : Reads w v zs) (hlm : zs.length ≤ maxLen) (hs : s.size ≤ maxLen) (ht : t.size ≤ maxLen) :
    Calls Try.prog 4 #[v, .string s, .string t] w fun e w' => e = .returned (.bool true) ∧ Below w.heap.size w w' := by
  obtain ⟨a0, c0, rfl⟩ := reads_slice hr
  by_cases hfit : zs.length + s.size + t.size ≤ 1048576
  · go_enter Try.func4, Try.ntmps4
    go_wp2_with (go_at_call 9; refine (bytes3_yes _ _ _ _ _ _ hfit).mono ?_; rintro e w' ⟨rfl, hw⟩; subst w')
    refine (clone_any _ zs _ hr (by omega)).mono ?_
    rintro e w1 ⟨v1, rfl, hown1, hg1, hv1⟩
    go_wp2_with fail
    refine (clone_any _ zs _ (reads_own hown1) (by omega)).mono ?_
    rintro e w2 ⟨v2, rfl, hown2, hg2, hv2⟩
    have hown1b := hown1.kept hg2 (by cases h : v1.ownBlock <;> simp)
    go_wp2_with fail
    refine (clone_any _ zs _ (reads_own hown1b) (by omega)).mono ?_
    rintro e w3 ⟨v3, rfl, hown3, hg3, hv3⟩
    have hown1c := hown1b.kept hg3 (by cases h : v1.ownBlock <;> simp)
    have hown2c := hown2.kept hg3 (by cases h : v2.ownBlock <;> simp)
    go_wp2_with fail
    refine (clone_any _ zs _ (reads_own hown1c) (by omega)).mono ?_
    rintro e w4 ⟨v4, rfl, hown4, hg4, hv4⟩
    have hown2d := hown2c.kept hg4 (by cases h : v2.ownBlock <;> simp)
    have hown3d := hown3.kept hg4 (by cases h : v3.ownBlock <;> simp)
    have z12 := hg2.size
    have z23 := hg3.size
    have z34 := hg4.size
    have z01 := hg1.size
    have l2 := hown2.lt
    have l3 := hown3.lt
    have l4 := hown4.lt
    clear hown1 hown1b hown1c hown2 hown2c hown3 hv1 hv2 hv3 hv4 hr
    go_wp2_with fail
    refine (raw_any v3 zs (s ++ t) w.heap.size w4 (own_base hown3d (by omega)) (by omega) (by omega) (by rw [size_add]; omega)).mono ?_
    rintro e w5 ⟨x1, rfl, hO1⟩
    have hown2e := kept_onto hown2d hO1 (apart fun k h1 h2 => by have := l2 k h1; have := l3 k h2; omega)
    have hown4e := kept_onto hown4 hO1 (apart fun k h1 h2 => by have := l4 k h1; have := l3 k h2; omega)
    have l5 : ∀ k, x1.ownBlock = some k → (w2.heap.size ≤ k ∧ k < w3.heap.size) ∨ w4.heap.size ≤ k := by
      intro k hk
      rcases hO1.at_ with e | ⟨g, e, hg⟩
      · exact .inl (l3 k (e ▸ hk))
      · rw [hk] at e; cases e; exact .inr hg
    go_wp2_with fail
    refine (raw_any v4 zs s w.heap.size w5 (own_base hown4e (by omega)) (by have := hO1.grown.size; omega) (by omega) (by omega)).mono ?_
    rintro e w6 ⟨x2, rfl, hO2⟩
    have hown2f := kept_onto hown2e hO2 (apart fun k h1 h2 => by have := l2 k h1; have := l4 k h2; omega)
    have hx1 := kept_onto hO1.own hO2 (apart fun k h1 h2 => by have := l5 k h1; have := l4 k h2; omega)
    go_wp2_with fail
    refine (raw_any (.slice none 0 0) [] t w.heap.size w6 (World.ownsRow_nil _ _ _ _) (by have := hO1.grown.size; have := hO2.grown.size; omega) (by simp) (by omega)).mono ?_
    rintro e w7 ⟨x3, rfl, hO3⟩
    have hown2g := kept_onto hown2f hO3 (by cases h : v2.ownBlock <;> simp [Value.ownBlock])
    have hx1g := kept_onto hx1 hO3 (by cases h : x1.ownBlock <;> simp [Value.ownBlock])
    have hx2g := kept_onto hO2.own hO3 (by cases h : x2.ownBlock <;> simp [Value.ownBlock])
    have hx3g := hO3.own
    have hbel : Below w.heap.size w w7 := by
      refine below_grown (below_grown (below_grown (below_grown (below_grown (below_grown (below_grown (Below.refl _ _) hg1 (by simp)) hg2 (by simp)) hg3 (by simp)) hg4 (by simp)) hO1.grown ?_) hO2.grown ?_) hO3.grown ?_
      · intro k hk; have := l3 k hk; omega
      · intro k hk; have := l4 k hk; omega
      · intro k hk; simp [Value.ownBlock] at hk
    rw [S_append, esc_append] at hx1g
    have f1 := esc_length (S s)
    have f2 := esc_length (S t)
    rw [S_length] at f1 f2
    have f3 := (esc_le (S s)).2
    have f4 := (esc_le (S t)).2
    rw [S_length] at f3 f4
    have q1 : (zs ++ 34 :: ((esc (S s) ++ esc (S t)) ++ [34])).length = zs.length + ((esc (S s)).length + (esc (S t)).length) + 2 := by rw [out_len, List.length_append]
    have q2 := out_len zs (esc (S s))
    have q3 : (([] : List Int) ++ 34 :: (esc (S t) ++ [34])).length = (esc (S t)).length + 2 := by rw [out_len]; simp
    have r1 := fun i hi => cut_lo zs (esc (S s)) (esc (S t)) i hi
    have r2 := fun i => cut_hi zs (esc (S s)) (esc (S t)) i
    obtain ⟨E1, hE1⟩ : ∃ E, E = (esc (S s)).length := ⟨_, rfl⟩
    obtain ⟨E2, hE2⟩ : ∃ E, E = (esc (S t)).length := ⟨_, rfl⟩
    rw [← hE1] at f1 f3 q1 q2 r1 r2
    rw [← hE2] at f2 f4 q1 q3
    obtain ⟨g1, k1, hk1, rfl, hcell1⟩ := own_cells_n hx1g q1 (by omega)
    obtain ⟨g2, k2, hk2, rfl, hcell2⟩ := own_cells_n hx2g q2 (by omega)
    obtain ⟨g3, k3, hk3, rfl, hcell3⟩ := own_cells_n hx3g q3 (by omega)
    have ca := hcell1 zs.length (by omega)
    rw [out_at] at ca
    have Hlo : Hid (∀ i, i < zs.length → w7.cell? ⟨g1, i, none⟩ = some (.int .u8 (zs.getD i 0))) := fun i hi => by
      rw [hcell1 _ (by omega), out_lo _ _ _ hi]
    have H12 : Hid (∀ i, i < zs.length + E1 + 1 → ∃ z, w7.cell? ⟨g1, i, none⟩ = some (.int .u8 z) ∧ w7.cell? ⟨g2, i, none⟩ = some (.int .u8 z)) := fun i hi =>
      ⟨_, hcell1 i (by omega), by rw [r1 i hi]; exact hcell2 i (by omega)⟩
    have H13 : Hid (∀ i, i < E2 + 1 → ∃ z, w7.cell? ⟨g1, zs.length + E1 + i + 1, none⟩ = some (.int .u8 z) ∧ w7.cell? ⟨g3, i + 1, none⟩ = some (.int .u8 z)) := fun i hi =>
      ⟨_, hcell1 _ (by omega), by rw [r2 i]; exact hcell3 _ (by omega)⟩
    have p1 : E1 ≤ s.size + specials (S s) := by omega
    have p1' : s.size + specials (S s) ≤ E1 := by omega
    have p2 : E2 ≤ t.size + specials (S t) := by omega
    have p2' : t.size + specials (S t) ≤ E2 := by omega
    have hrd := own_case hown2g
    clear hown2d hown2e hown2f hown2g hown3d hown4 hown4e hO1 hO2 hO3 hx1 hx1g hx2g hx3g l2 l3 l4 l5 hg1 hg2 hg3 hg4 z12 z23 z34 z01 f1 f2 q1 q2 q3 r1 r2 hE1 hE2 hcell1 hcell2 hcell3
    rcases hrd with ⟨rfl, hz0⟩ | ⟨x, c3, rfl, hc3⟩
    · have hzl : zs.length ≤ 0 := by rw [hz0]; exact Nat.le_refl _
      have ca0 : w7.cell? ⟨g1, 0, none⟩ = some (.int .u8 34) := by
        have e : zs.length = 0 := by omega
        rw [e] at ca; exact ca
      have ee : ((34 : Int) != 34) = false := rfl
      clear hz0 ca Hlo
      go_wp2_with fail
      refine (count_any s _ (by omega)).mono ?_
      rintro e w' ⟨rfl, hw⟩
      subst w'
      go_wp2_with fail
      refine (count_any t _ (by omega)).mono ?_
      rintro e w' ⟨rfl, hw⟩
      subst w'
      go_wp2_with fail
      refine wp_loop_rounds 1 ?_
      rw [rounds_succ]
      go_wp2_with fail
      go_loopw [15, 16] (fun k i wr => ∃ j nq : Nat, j ≤ zs.length + E1 + 1 ∧ k = .int .i64 j ∧ i = .int .i64 j ∧ wr = w7.drewN nq) (fun _ i _ => zs.length + E1 + 1 - (intOf i).toNat)
      case atStart => exact ⟨0, 0, Nat.zero_le _, rfl, rfl, rfl⟩
      case round =>
        obtain ⟨j, nr, hj, rfl, rfl, rfl⟩ := hrel
        by_cases hlt2 : j < zs.length + E1 + 1
        · obtain ⟨z, c1, c2⟩ := H12.out j hlt2
          have b1 : (j : Int) < (zs.length : Int) + (E1 + E2) + 2 := by omega
          have b2 : (j : Int) < (zs.length : Int) + E1 + 2 := by omega
          go_wp2_with fail
          go_quiet (fail)
          go_wp2
          go_roundw
          case rel => exact ⟨j + 1, _, by omega, by go_num, by go_num, rfl⟩
          case measure => simp [intOf]; omega
        · obtain rfl : j = zs.length + E1 + 1 := by omega
          go_wp2_with fail
          go_loopw [15, 17] (fun k i wr => ∃ j nq : Nat, j ≤ E2 + 1 ∧ k = .int .i64 ((zs.length + E1 + j + 1 : Nat) : Int) ∧ i = .int .i64 ((j + 1 : Nat) : Int) ∧ wr = w7.drewN nq) (fun _ i _ => E2 + 2 - (intOf i).toNat)
          case atStart => exact ⟨0, _, Nat.zero_le _, by go_num, by go_num, rfl⟩
          case round =>
            obtain ⟨j, ns, hj, rfl, rfl, rfl⟩ := hrel
            by_cases hlt3 : j < E2 + 1
            · obtain ⟨z, c1, c2⟩ := H13.out j hlt3
              go_wp2_with fail
              go_quiet (fail)
              go_wp2
              go_roundw
              case rel => exact ⟨j + 1, _, by omega, by go_num, by go_num, rfl⟩
              case measure => simp [intOf]; omega
            · go_wp2
              go_ret
              exact ⟨rfl, below_drewN hbel _⟩
    · go_wp2_with fail
      refine (count_any s _ (by omega)).mono ?_
      rintro e w' ⟨rfl, hw⟩
      subst w'
      go_wp2_with fail
      refine (count_any t _ (by omega)).mono ?_
      rintro e w' ⟨rfl, hw⟩
      subst w'
      have Hc3 : Hid (∀ i, i < zs.length → w7.cell? ⟨x, i, none⟩ = some (.int .u8 (zs.getD i 0))) := hc3
      have ee : ((34 : Int) != 34) = false := rfl
      clear hc3
      go_wp2_with fail
      go_loopw [14] (fun i wr => ∃ k nq : Nat, k ≤ zs.length ∧ i = .int .i64 k ∧ wr = w7.drewN nq) (fun i _ => zs.length - (intOf i).toNat)
      case atStart => exact ⟨0, 0, Nat.zero_le _, rfl, rfl⟩
      case round =>
        obtain ⟨k, nq, hk, rfl, rfl⟩ := hrel
        by_cases hlt : k < zs.length
        · have c1 := Hlo.out k hlt
          have c2 := Hc3.out k hlt
          have b1 : (k : Int) < (zs.length : Int) + (E1 + E2) + 2 := by omega
          generalize zs.getD k 0 = z at c1 c2
          go_wp2_with fail
          go_quiet (fail)
          go_wp2
          go_roundw
          case rel => exact ⟨k + 1, _, by omega, by go_num, rfl⟩
          case measure => simp [intOf]; omega
        · have hb0 : (zs.length : Int) < (zs.length : Int) + (E1 + E2) + 2 := by omega
          go_wp2_with fail
          go_loopw [15, 16] (fun k i wr => ∃ j nq : Nat, j ≤ zs.length + E1 + 1 ∧ k = .int .i64 j ∧ i = .int .i64 j ∧ wr = w7.drewN nq) (fun _ i _ => zs.length + E1 + 1 - (intOf i).toNat)
          case atStart => exact ⟨0, _, Nat.zero_le _, rfl, rfl, rfl⟩
          case round =>
            obtain ⟨j, nr, hj, rfl, rfl, rfl⟩ := hrel
            by_cases hlt2 : j < zs.length + E1 + 1
            · obtain ⟨z, c1, c2⟩ := H12.out j hlt2
              have b1 : (j : Int) < (zs.length : Int) + (E1 + E2) + 2 := by omega
              have b2 : (j : Int) < (zs.length : Int) + E1 + 2 := by omega
              go_wp2_with fail
              go_quiet (fail)
              go_wp2
              go_roundw
              case rel => exact ⟨j + 1, _, by omega, by go_num, by go_num, rfl⟩
              case measure => simp [intOf]; omega
            · obtain rfl : j = zs.length + E1 + 1 := by omega
              go_wp2_with fail
              go_loopw [15, 17] (fun k i wr => ∃ j nq : Nat, j ≤ E2 + 1 ∧ k = .int .i64 ((zs.length + E1 + j + 1 : Nat) : Int) ∧ i = .int .i64 ((j + 1 : Nat) : Int) ∧ wr = w7.drewN nq) (fun _ i _ => E2 + 2 - (intOf i).toNat)
              case atStart => exact ⟨0, _, Nat.zero_le _, by go_num, by go_num, rfl⟩
              case round =>
                obtain ⟨j, ns, hj, rfl, rfl, rfl⟩ := hrel
                by_cases hlt3 : j < E2 + 1
                · obtain ⟨z, c1, c2⟩ := H13.out j hlt3
                  go_wp2_with fail
                  go_quiet (fail)
                  go_wp2
                  go_roundw
                  case rel => exact ⟨j + 1, _, by omega, by go_num, by go_num, rfl⟩
                  case measure => simp [intOf]; omega
                · go_wp2
                  go_ret
                  exact ⟨rfl, below_drewN hbel _⟩
  · go_enter Try.func4, Try.ntmps4
    go_wp2_with (go_at_call 9; refine (bytes3_no _ _ _ _ _ _ hlm hs ht hfit).mono ?_; rintro e w' ⟨rfl, hw⟩; subst w')
    go_ret
    exact ⟨rfl, Below.refl _ _⟩
end Go.Proofs.Qxb6627918a
