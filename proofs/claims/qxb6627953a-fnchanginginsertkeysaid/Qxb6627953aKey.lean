/-
  WALKS for seat b6627953a: zzKey (11).
-/
import Derived.Test.Qxb6627953aSmall
namespace Go.Proofs.Qxb6627953a
open Go.RowKit

theorem chainB {B : Nat} {W wa wb : World} (h : Below B W wa) (hb : Below wa.heap.size wa wb) (hs : B ≤ W.heap.size) : Below B W wb := h.trans (hb.mono (Nat.le_trans hs h.size))

theorem showS4 {W w' : World} {g : Nat} {v0 v1 v2 v3 : Value} (c0 : W.cell? ⟨g, 0, none⟩ = some v0) (c1 : W.cell? ⟨g, 1, none⟩ = some v1) (c2 : W.cell? ⟨g, 2, none⟩ = some v2) (c3 : W.cell? ⟨g, 3, none⟩ = some v3) (hb : Below (g + 1) W w') :
    w'.cell? ⟨g, 0, none⟩ = some v0 ∧ w'.cell? ⟨g, 1, none⟩ = some v1 ∧ w'.cell? ⟨g, 2, none⟩ = some v2 ∧ w'.cell? ⟨g, 3, none⟩ = some v3 ∧ Below (g + 1) W w' :=
  have hg : g < g + 1 := Nat.lt_succ_self g
  ⟨(hb.cell (p := ⟨g, 0, none⟩) hg).trans c0, (hb.cell (p := ⟨g, 1, none⟩) hg).trans c1, (hb.cell (p := ⟨g, 2, none⟩) hg).trans c2, (hb.cell (p := ⟨g, 3, none⟩) hg).trans c3, hb⟩

/-- The result's own cells, still there behind the calls. -/
theorem res_cell {W w' : World} {g n : Nat} (h : Below (g + 1) W w') (Hd : Hid (∀ j, j < n → (W.cell? ⟨g, j, none⟩).isSome = true ∧ W.frozen? ⟨g, j, none⟩ = false)) (j : Nat) (hj : j < n) :
    ∃ u, w'.cell? ⟨g, j, none⟩ = some u ∧ w'.frozen? ⟨g, j, none⟩ = false := by
  obtain ⟨h1, h2⟩ := Hd.out j hj
  obtain ⟨u, hu⟩ := Option.isSome_iff_exists.1 h1
  exact ⟨u, (h.cell (p := ⟨g, j, none⟩) (Nat.lt_succ_self g)).trans hu, (h.frozen (p := ⟨g, j, none⟩) (Nat.lt_succ_self g)).trans h2⟩

set_option maxHeartbeats 800000 in
theorem key_any (r q : Int) (p fa : Option Addr) (fn fc : Nat) (w : World) (hq : Quo w p) (hf : FlSl w fa fn fc) (hn : fn ≤ 1048576) :
    Calls Try.prog 11 #[.agg #[.int .i64 r, .int .i64 q, .pointer p, .slice fa fn fc]] w fun e w' =>
      (∃ p' a' c', e = .returned (.agg #[.int .i64 r, .int .i64 q, .pointer p', .slice a' fn c']) ∧ p'.isSome = p.isSome) ∧ Below w.heap.size w w' := by
  have Hq : Hid (Quo w p) := hq
  have Hf : Hid (FlSl w fa fn fc) := hf
  clear hq hf
  go_enter Try.func11, Try.ntmps11
  go_wp2_with fail
  obtain ⟨W, hW⟩ : ∃ W, W = (w.alloc (Obj.cells #[Value.int IntKind.i64 r, Value.int IntKind.i64 q, Value.pointer p, Value.slice fa fn fc] 39)).alloc (Obj.cells #[Value.int IntKind.i64 0, Value.int IntKind.i64 0, Value.pointer none, Value.slice none 0 0] 43) := ⟨_, rfl⟩
  rw [← hW]
  have hsz : w.heap.size + 2 ≤ W.heap.size := by rw [hW]; simp
  have HBW : Hid (Below w.heap.size w W) := by rw [hW]; exact ((Below.refl _ _).alloc (Nat.le_refl _) _).alloc (by simp) _
  have c0 : W.cell? ⟨w.heap.size, 0, none⟩ = some (.int .i64 r) := by rw [hW]; simp
  have c1 : W.cell? ⟨w.heap.size, 1, none⟩ = some (.int .i64 q) := by rw [hW]; simp
  have c2 : W.cell? ⟨w.heap.size, 2, none⟩ = some (.pointer p) := by rw [hW]; simp
  have c3 : W.cell? ⟨w.heap.size, 3, none⟩ = some (.slice fa fn fc) := by rw [hW]; simp
  have Hd : Hid ((∀ j, j < 4 → (W.cell? ⟨w.heap.size + 1, j, none⟩).isSome = true ∧ W.frozen? ⟨w.heap.size + 1, j, none⟩ = false)) := by
    intro j hj
    rw [hW]
    match j, hj with
    | 0, _ => simp
    | 1, _ => simp
    | 2, _ => simp
    | 3, _ => simp
  clear hW
  go_region_held3 (fun w' => w'.cell? ⟨w.heap.size, 0, none⟩ = some (.int .i64 r) ∧ w'.cell? ⟨w.heap.size, 1, none⟩ = some (.int .i64 q) ∧ w'.cell? ⟨w.heap.size, 2, none⟩ = some (.pointer p) ∧ w'.cell? ⟨w.heap.size, 3, none⟩ = some (.slice fa fn fc) ∧ Below (w.heap.size + 1) W w')
    ((refine showS4 c0 c1 c2 c3 ?_; repeat (first | assumption | exact Below.refl _ _ | apply Below.drew | (refine Below.setCell ?_ (by simp) _))))
    (first
      | (go_at_call 13; refine (quo_any _ _ ?_).mono ?_; (exact Hq.out.keep (chainB HBW.out ((Below.refl _ _).drew) (Nat.le_refl _))); rintro e w1 ⟨⟨p', rfl, hp'⟩, hb1⟩; (have hB1 := chainB ((Below.refl (w.heap.size + 1) W).drew) hb1 (by omega)); (have hD1 := chainB ((Below.refl (w.heap.size + 2) W).drew) hb1 (by omega)); (have HD1 : Hid _ := hD1); clear hD1 hb1)
      | (go_at_call 14; refine (flo_any _ _ _ _ ?_ hn).mono ?_; (exact Hf.out.keep (HBW.out.trans (hB1.mono (by omega)))); rintro e w2 ⟨⟨a', c', rfl⟩, hb2⟩; (have hB2 := chainB hB1 hb2 (by omega)); (have hD2 := chainB HD1.out hb2 (by omega)); (obtain ⟨u0, d0, f0⟩ := res_cell hD2 Hd 0 (by omega)); (obtain ⟨u1, d1, f1⟩ := res_cell hD2 Hd 1 (by omega)); (obtain ⟨u2, d2, f2⟩ := res_cell hD2 Hd 2 (by omega)); (obtain ⟨u3, d3, f3⟩ := res_cell hD2 Hd 3 (by omega)); clear hb2 hD2))
  go_wp2
  refine bodyPost_ret (v := .agg #[.int .i64 r, .int .i64 q, .pointer p', .slice a' fn c']) (by simp [results, Try.results11, go_sem, d0, d1, d2, d3]) rfl ⟨⟨p', a', c', rfl, hp'⟩, ?_⟩
  refine HBW.out.trans ?_
  repeat (first | exact hB2.mono (Nat.le_succ _) | refine Below.setCell ?_ (by simp) _)
end Go.Proofs.Qxb6627953a
