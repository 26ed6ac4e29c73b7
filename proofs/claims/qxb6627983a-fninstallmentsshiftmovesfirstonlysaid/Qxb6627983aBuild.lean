/-
  WALKS for seat b6627983a: zzBuild (7), (*Schedule).Installments (8).
-/
import Derived.Test.Qxb6627983aSmall
namespace Go.Proofs.Qxb6627983a
open Go.RowKit

/-- The first m pairs of block h: dates A, numbers B. -/
def Ins (w : World) (h m : Nat) (A B : Nat → Int) : Prop := ∀ j, j < m → w.cell? ⟨h, j * 2, none⟩ = some (.int .i32 (A j)) ∧ w.cell? ⟨h, j * 2 + 1, none⟩ = some (.int .i64 (B j))

theorem Ins.keep {w w' : World} {h m : Nat} {A B : Nat → Int} (hi : Ins w h m A B) (hb : Below w.heap.size w w') : Ins w' h m A B := fun j hj => ⟨kept_cell hb (hi j hj).1, kept_cell hb (hi j hj).2⟩
theorem Ins.zero (w : World) (h : Nat) (A B : Nat → Int) : Ins w h 0 A B := fun _ hj => absurd hj (Nat.not_lt_zero _)

theorem Ins.step {w w1 w' : World} {base h m k : Nat} {A B : Nat → Int} {x v : Int} (hi : Ins w h k A B) (hb : Below w.heap.size w w1) (hs : Stepped w1 w' base h m k x v) (hx : x = A k) (hv : v = B k) : Ins w' h (k + 1) A B := by
  intro j hj
  by_cases e : j = k
  · subst e
    exact ⟨by rw [hs.at0, hx], by rw [hs.at1, hv]⟩
  · obtain ⟨h0, h1⟩ := hi j (by omega)
    exact ⟨hs.other _ _ (kept_cell hb h0) (by simp <;> omega) (by simp <;> omega), hs.other _ _ (kept_cell hb h1) (by simp <;> omega) (by simp <;> omega)⟩

set_option maxHeartbeats 1000000 in
theorem build_any (ao av : Option Addr) (n c d : Nat) (O V : Nat → Int) (lo hi : Nat) (add : Int) (w : World) (hO : IntSl .i32 w ao n O) (hV : IntSl .i64 w av n V) (h1 : lo ≤ hi) (h2 : hi ≤ n) (hn : n ≤ 1048576)
    (hadd : ∀ i, lo ≤ i → i < hi → -9223372036854775808 ≤ V i + add ∧ V i + add ≤ 9223372036854775807) :
    Calls Try.prog 7 #[.slice ao n c, .slice av n d, .int .i64 lo, .int .i64 hi, .int .i64 add] w fun e w' =>
      ∃ p h, e = .returned (.pointer (some ⟨p, 0, none⟩)) ∧ w'.cell? ⟨p, 0, none⟩ = some (.slice (some ⟨h, 0, none⟩) (hi - lo) (hi - lo)) ∧ Ins w' h (hi - lo) (fun j => O (lo + j)) (fun j => V (lo + j) + add) ∧ Below w.heap.size w w' := by
  have HO : Hid (IntSl .i32 w ao n O) := hO
  have HV : Hid (IntSl .i64 w av n V) := hV
  have Hadd : Hid (∀ i, lo ≤ i → i < hi → -9223372036854775808 ≤ V i + add ∧ V i + add ≤ 9223372036854775807) := hadd
  clear hO hV hadd
  go_enter Try.func7, Try.ntmps7
  go_wp2_with fail
  refine (new_at (hi - lo) _ _ (by omega) (by omega)).mono ?_
  rintro e w1 ⟨rfl, hsz, hp, hR, hB⟩
  obtain ⟨p, hpe⟩ : ∃ p, p = w1.heap.size - 1 := ⟨_, rfl⟩
  rw [← hpe] at hp ⊢
  have hph : p ≠ w.heap.size := by omega
  have Hsz : Hid (w.heap.size + 2 ≤ w1.heap.size) := hsz
  clear hpe hsz
  obtain ⟨h, hhe⟩ : ∃ h, h = w.heap.size := ⟨_, rfl⟩
  have Hhe : Hid (h = w.heap.size) := hhe
  have HR1 : Hid (Row w1 w.heap.size 43 2 h (hi - lo)) := by rw [hhe]; exact hR
  have HB1 : Hid (Below w.heap.size w w1) := hB
  rw [← hhe] at hp hph
  have Hp1 : Hid (w1.cell? ⟨p, 0, none⟩ = some (.slice (some ⟨h, 0, none⟩) (hi - lo) (hi - lo))) := hp
  clear hhe hR hB hp
  go_wp2_with fail
  go_loopw [12] (fun i wr => ∃ k : Nat, lo ≤ k ∧ k ≤ hi ∧ i = .int .i64 k ∧ Hid (wr.cell? ⟨p, 0, none⟩ = some (.slice (some ⟨h, 0, none⟩) (hi - lo) (hi - lo))) ∧ Hid (Row wr w.heap.size 43 2 h (hi - lo)) ∧ Hid (Ins wr h (k - lo) (fun j => O (lo + j)) (fun j => V (lo + j) + add)) ∧ Hid (Below w.heap.size w wr)) (fun i _ => hi - (intOf i).toNat)
  case atStart => exact ⟨lo, Nat.le_refl _, h1, rfl, Hp1, HR1, by rw [Nat.sub_self]; exact Ins.zero _ _ _ _, HB1⟩
  case round =>
    obtain ⟨k, hk1, hk2, rfl, Hp, HR, HI, HB⟩ := hrel
    by_cases hlt : k < hi
    · obtain ⟨b, o, hx, c0⟩ := (HO.out.keep HB.out).cell k (by omega)
      obtain ⟨b2, o2, hx2, c1⟩ := (HV.out.keep HB.out).cell k (by omega)
      have c0w := (HO.out.cell k (by omega))
      have c1w := (HV.out.cell k (by omega))
      have hbl : b < w.heap.size := by
        obtain ⟨b', o', e1, e2⟩ := c0w
        rw [hx] at e1; cases e1
        exact World.block_lt_of_cell? w _ e2
      have hbl2 : b2 < w.heap.size := by
        obtain ⟨b', o', e1, e2⟩ := c1w
        rw [hx2] at e1; cases e1
        exact World.block_lt_of_cell? w _ e2
      clear c0w c1w
      subst hx
      subst hx2
      obtain ⟨ha1, ha2⟩ := Hadd.out k hk1 hlt
      have hki : (0 : Int) ≤ (k : Int) := by omega
      have hkn : (k : Int) < (n : Int) := by omega
      have hhw := Hhe.out
      have hne1 : b ≠ h := by omega
      have hne2 : b2 ≠ h := by omega
      clear hhw
      have hw1 : IntKind.i64.wrap ((k : Int) - (lo : Int)) = (k : Int) - (lo : Int) := IntWalk.i64_in _ ⟨by omega, by omega⟩
      have hw2 : IntKind.i64.wrap (V k + add) = V k + add := IntWalk.i64_in _ ⟨ha1, ha2⟩
      have hS0 : wr.drew.cell? ⟨b, o + k, none⟩ = some (.int .i32 (O k)) ∧ wr.drew.cell? ⟨b2, o2 + k, none⟩ = some (.int .i64 (V k)) := ⟨c0, c1⟩
      go_wp2_with fail
      go_region_held3 (fun w' => w'.cell? ⟨b, o + k, none⟩ = some (.int .i32 (O k)) ∧ w'.cell? ⟨b2, o2 + k, none⟩ = some (.int .i64 (V k)))
        (first | with_reducible exact hS0 | with_reducible exact hS1 | with_reducible exact hS2)
        (first
          | (go_at_call 13; refine (from_any _ _).mono ?_; rintro e y1 ⟨rfl, hy1⟩; (replace hy1 := undrew hy1); (have hS1 : y1.cell? ⟨b, o + k, none⟩ = some (.int .i32 (O k)) ∧ y1.cell? ⟨b2, o2 + k, none⟩ = some (.int .i64 (V k)) := ⟨kept_cell hy1 c0, kept_cell hy1 c1⟩); (have Hy1 : Hid _ := hy1); clear hy1)
          | (go_at_call 12; refine (set_at p h (hi - lo) (k - lo) w.heap.size _ (O k) _ _ (by omega) (kept_cell Hy1.out Hp.out) (HR.out.keep Hy1.out) (by omega) hph).mono ?_; rintro e y2 ⟨rfl, hst⟩; (have hS2 : y2.cell? ⟨b, o + k, none⟩ = some (.int .i32 (O k)) ∧ y2.cell? ⟨b2, o2 + k, none⟩ = some (.int .i64 (V k)) := ⟨hst.other _ _ (kept_cell Hy1.out c0) (by simp <;> omega) (by simp <;> omega), hst.other _ _ (kept_cell Hy1.out c1) (by simp <;> omega) (by simp <;> omega)⟩); (have Hst : Hid _ := hst); clear hst))
      go_wp2
      go_roundw
      case rel =>
        refine ⟨k + 1, by omega, by omega, by go_num, ?_, Hst.out.row, ?_, Hst.out.below _ _ (chainB HB.out Hy1.out (Nat.le_refl _)) (Nat.le_refl _) (Nat.le_refl _)⟩
        · exact Hst.out.other _ _ (kept_cell Hy1.out Hp.out) (by simp <;> omega) (by simp <;> omega)
        · rw [show k + 1 - lo = (k - lo) + 1 by omega]
          exact HI.out.step Hy1.out Hst.out (by rw [show lo + (k - lo) = k by omega]) (by rw [show lo + (k - lo) = k by omega])
      case measure => simp [intOf]; omega
    · obtain rfl : k = hi := by omega
      go_wp2
      go_ret
      exact ⟨p, h, rfl, Hp.out, HI.out, HB.out⟩

/-- An installment's shares. -/
def Sh (B : Nat → Int) (j : Nat) : Int := B j - (if j = 0 then 0 else B (j - 1))
def pre (B : Nat → Int) (k : Nat) : Int := if k = 0 then 0 else B (k - 1)

theorem Ins.put {w : World} {q m k : Nat} {A B : Nat → Int} {x v : Int} {u0 u1 : Value} (hi : Ins w q k A B) (e0 : w.cell? ⟨q, k * 2, none⟩ = some u0) (e1 : w.cell? ⟨q, k * 2 + 1, none⟩ = some u1) (hx : x = A k) (hv : v = B k) (_hm : k < m) :
    Ins ((w.setCell ⟨q, k * 2, none⟩ (.int .i32 x)).setCell ⟨q, k * 2 + 1, none⟩ (.int .i64 v)) q (k + 1) A B := by
  have hne : (⟨q, k * 2 + 1, none⟩ : Addr) ≠ ⟨q, k * 2, none⟩ := by simp
  intro j hj
  by_cases e : j = k
  · subst e
    refine ⟨?_, ?_⟩
    · rw [World.cell?_setCell_other (h := hne), World.cell?_setCell_same (h := e0), hx]
    · rw [World.cell?_setCell_same (u := u1) _ _ _ (by rw [World.cell?_setCell_other (h := hne.symm)]; exact e1), hv]
  · obtain ⟨h0, h1⟩ := hi j (by omega)
    refine ⟨?_, ?_⟩
    · rw [World.cell?_setCell_other (h := by simp <;> omega), World.cell?_setCell_other (h := by simp <;> omega)]; exact h0
    · rw [World.cell?_setCell_other (h := by simp <;> omega), World.cell?_setCell_other (h := by simp <;> omega)]; exact h1

set_option maxHeartbeats 1000000 in
theorem inst_any (p h m : Nat) (A B : Nat → Int) (w : World) (hp : w.cell? ⟨p, 0, none⟩ = some (.slice (some ⟨h, 0, none⟩) m m)) (hI : Ins w h m A B) (hm : m ≤ 1048576) (hb : ∀ j, j < m → 1 ≤ B j ∧ B j ≤ 9223372036854775807) (hinc : ∀ j, j + 1 < m → B j < B (j + 1)) :
    Calls Try.prog 8 #[.pointer (some ⟨p, 0, none⟩)] w fun e w' => ∃ q, e = .returned (.slice (some ⟨q, 0, none⟩) m m) ∧ Ins w' q m A (Sh B) ∧ Below w.heap.size w w' := by
  obtain ⟨i0, hi, hz0, hz1, hz2⟩ := info_parts Try.info34
  have Hp : Hid (w.cell? ⟨p, 0, none⟩ = some (.slice (some ⟨h, 0, none⟩) m m)) := hp
  have HI : Hid (Ins w h m A B) := hI
  have Hb : Hid ((∀ j, j < m → 1 ≤ B j ∧ B j ≤ 9223372036854775807) ∧ ∀ j, j + 1 < m → B j < B (j + 1)) := ⟨hb, hinc⟩
  clear hI hb hinc
  go_enter Try.func8, Try.ntmps8
  go_wp2_with (at_make; refine wpList_make_full _ rfl _ _ 26 rfl w.heap.size 34 i0 (.agg #[.int .i32 0, .int .i64 0]) 2 Try.underlying26 hi hz0 hz1 _ _ _ _ m rfl rfl rfl rfl (by rw [hz2]; omega) (by unfold maxLen; omega) (Nat.le_refl _) ?_; intro w1 hown1 hg1; (have hp1 := hg1.cell hp (by simp)))
  have HR1 : Hid (Row w1 w.heap.size 34 2 w.heap.size m) := ⟨_, hown1⟩
  have HB1 : Hid (Below w.heap.size w w1) := (Below.refl _ _).grown hg1 (Nat.le_refl _) (by simp)
  clear hown1 hg1 hp1
  go_loopw [4, 18] (fun pv i wr => ∃ k : Nat, k ≤ m ∧ i = .int .i64 k ∧ pv = .int .i64 (pre B k) ∧ Hid (Row wr w.heap.size 34 2 w.heap.size m) ∧ Hid (Ins wr w.heap.size k A (Sh B)) ∧ Hid (Below w.heap.size w wr)) (fun _ i _ => m - (intOf i).toNat)
  case atStart => exact ⟨0, Nat.zero_le _, rfl, rfl, HR1, Ins.zero _ _ _ _, HB1⟩
  case round =>
    obtain ⟨k, hk, rfl, rfl, HR, HQ, HB⟩ := hrel
    by_cases hlt : k < m
    · obtain ⟨c0, c1⟩ := HI.out k hlt
      have hbl : h < w.heap.size := World.block_lt_of_cell? w _ c0
      replace c0 := kept_cell HB.out c0
      replace c1 := kept_cell HB.out c1
      have hl := HR.out.lt
      obtain ⟨u0, e0⟩ := HR.out.cell (k * 2) (by omega)
      obtain ⟨u1, e1⟩ := HR.out.cell (k * 2 + 1) (by omega)
      have f0 := HR.out.frozen (k * 2)
      have f1 := HR.out.frozen (k * 2 + 1)
      have n1 : w.heap.size ≠ wr.heap.size := by omega
      have n2 : wr.heap.size ≠ w.heap.size := by omega
      have n3 : h ≠ wr.heap.size := by omega
      have hbk := Hb.out.1 k hlt
      have hpr : 0 ≤ pre B k ∧ pre B k ≤ B k := by
        unfold pre
        by_cases e : k = 0
        · simp [e]; subst e; omega
        · have h3 := Hb.out.2 (k - 1) (by omega)
          have h4 := Hb.out.1 (k - 1) (by omega)
          rw [show k - 1 + 1 = k by omega] at h3
          simp [e]
          omega
      have HSh : Hid (B k - pre B k = Sh B k) := rfl
      have Hpre : Hid (pre B (k + 1) = B k) := rfl
      have hh1 := hpr.1
      have hh2 := hpr.2
      have hh3 := hbk.1
      have hh4 := hbk.2
      clear hpr hbk
      go_wp2
      go_roundw
      case rel =>
        have hsz := HB.out.size
        exact ⟨k + 1, by omega, by go_num, by rw [Hpre.out], ((HR.out.set _ _).set _ _).alloc _, (Ins.put (m := m) HQ.out e0 e1 rfl HSh.out hlt).keep ((Below.refl _ _).alloc (Nat.le_refl _) _),
          ((HB.out.setCell (p := ⟨w.heap.size, k * 2, none⟩) (Nat.le_refl _) _).setCell (p := ⟨w.heap.size, k * 2 + 1, none⟩) (Nat.le_refl _) _).alloc (by simpa using hsz) _⟩
      case measure => simp [intOf]; omega
    · obtain rfl : k = m := by omega
      go_wp2
      go_ret
      exact ⟨w.heap.size, rfl, HQ.out, HB.out⟩
end Go.Proofs.Qxb6627983a
