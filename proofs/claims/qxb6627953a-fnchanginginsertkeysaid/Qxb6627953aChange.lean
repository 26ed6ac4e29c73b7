/-
  WALKS for seat b6627953a: (Config).Changing (8).
-/
import Derived.Test.Qxb6627953aConfig
namespace Go.Proofs.Qxb6627953a
open Go.RowKit Go.Maps

/-- Some key of the map carries a From. -/
def Hot (D : DataW Unit) : Prop := ∃ k, Maps.has D k = true ∧ D.atKey k (bd false) = bd true

theorem bd_ne {h : bd false = bd true} : False := by cases h
theorem not_hot {D : DataW Unit} (h : ∀ k, Maps.has D k = true → D.atKey k (bd false) = bd false) : (false = true ↔ Hot D) :=
  Iff.intro (fun e => by cases e) (fun ⟨k, h1, h2⟩ => by rw [h k h1] at h2; exact (bd_ne (h := h2)).elim)
theorem is_hot {D : DataW Unit} {k : Lit} (h1 : Maps.has D k = true) (h2 : D.atKey k (bd false) = bd true) : (true = true ↔ Hot D) := Iff.intro (fun _ => ⟨k, h1, h2⟩) (fun _ => rfl)

theorem next_left {D : DataW Unit} {left : Lit → Bool} {kl : Lit} (h : (∀ k, left k = true → Maps.has D k = true) ∧ (∀ k, Maps.has D k = true → left k = false → D.atKey k (bd false) = bd false)) (ha : D.atKey kl (bd false) = bd false) :
    (∀ k, (left k && !k.sameKey kl) = true → Maps.has D k = true) ∧ (∀ k, Maps.has D k = true → (left k && !k.sameKey kl) = false → D.atKey k (bd false) = bd false) := by
  refine ⟨fun k hk => h.1 k (by simp at hk; exact hk.1), fun k h1 h2 => ?_⟩
  cases hl : left k with
  | false => exact h.2 k h1 hl
  | true =>
    rw [hl] at h2
    have : k.sameKey kl = true := by simpa using h2
    rw [WideAt.sameKey_eq this]
    exact ha

theorem Try.ne23 (w : World) (a : Option Addr) (n c n' c' : Nat) : (binOp .neq 23 (.slice a n c) (.slice none n' c')).run Try.prog w = .ok (.bool a.isSome) w := by
  have := run_neq_slice_nil_any (P := Try.prog) w 23 9 a n c n' c' Try.underlying23
  rw [this]; cases a <;> rfl

set_option maxHeartbeats 400000 in
theorem chg_from (num ep : Int) (na : Option Addr) (nn nc : Nat) (rd wr : Int) (x : Addr) (ta : Option Addr) (tn tc : Nat) (la : Option Addr) (ln lc : Nat) (km : Option Nat) (hm : Bool) (w : World) :
    Calls Try.prog 8 #[.agg #[.int .u64 num, .int .u64 ep, .slice na nn nc, .int .i64 rd, .int .i64 wr, .pointer (some x), .slice ta tn tc, .slice la ln lc, .map km, .bool hm]] w fun e w' => e = .returned (.bool true) ∧ Below w.heap.size w w' := by
  have hs := Try.ne23
  go_enter Try.func8, Try.ntmps8
  go_wp2
  go_ret
  exact ⟨rfl, (Below.refl _ _).alloc (Nat.le_refl _) _⟩

set_option maxHeartbeats 400000 in
theorem chg_to (num ep : Int) (na : Option Addr) (nn nc : Nat) (rd wr : Int) (x : Addr) (tn tc : Nat) (la : Option Addr) (ln lc : Nat) (km : Option Nat) (hm : Bool) (w : World) :
    Calls Try.prog 8 #[.agg #[.int .u64 num, .int .u64 ep, .slice na nn nc, .int .i64 rd, .int .i64 wr, .pointer none, .slice (some x) tn tc, .slice la ln lc, .map km, .bool hm]] w fun e w' => e = .returned (.bool true) ∧ Below w.heap.size w w' := by
  have hs := Try.ne23
  go_enter Try.func8, Try.ntmps8
  go_wp2
  go_ret
  exact ⟨rfl, (Below.refl _ _).alloc (Nat.le_refl _) _⟩

set_option maxHeartbeats 400000 in
theorem chg_nil (num ep : Int) (na : Option Addr) (nn nc : Nat) (rd wr : Int) (tn tc : Nat) (la : Option Addr) (ln lc : Nat) (hm : Bool) (w : World) :
    Calls Try.prog 8 #[.agg #[.int .u64 num, .int .u64 ep, .slice na nn nc, .int .i64 rd, .int .i64 wr, .pointer none, .slice none tn tc, .slice la ln lc, .map none, .bool hm]] w fun e w' => e = .returned (.bool false) ∧ Below w.heap.size w w' := by
  have hs := Try.ne23
  have hrg := fun w : World => run_range_nilMap (P := Try.prog) w 33 9 43 Try.underlying33
  have hnx : ∀ (O : Obj) (ty : TypeId), (Instr.next (.pointer (some ⟨w.heap.size + 1, 0, none⟩)) false ty).run Try.prog ((w.alloc O).alloc (.mapIter none 0 #[] 0)) = .ok (.tuple #[.bool false]) ((w.alloc O).alloc (.mapIter none 0 #[] 0)) := fun O ty => by
    have := run_next_nilMap (P := Try.prog) (w.alloc O) ty 0 0 #[]
    simpa using this
  go_enter Try.func8, Try.ntmps8
  go_wp2
  refine wp_loop_rounds 1 ?_
  rw [rounds_succ]
  go_wp2
  go_ret
  exact ⟨rfl, ((Below.refl _ _).alloc (Nat.le_refl _) _).alloc (by simp) _⟩

theorem str_inv {key : Value} {kl : Lit} (h : keyOf Try.prog 9 key = some kl) : ∃ x, key = .string x := by
  cases key <;> simp [keyOf, Try.underlying9, mapKey] at h
  exact ⟨_, rfl⟩

/-- The parts of a key's value, for the law on a step. -/
def mk (c : Int × Int × Option Addr × Option Addr × Nat × Nat) : Value := .agg #[.int .i64 c.1, .int .i64 c.2.1, .pointer c.2.2.1, .slice c.2.2.2.1 c.2.2.2.2.1 c.2.2.2.2.2]
theorem mk_inv (v : Value) (y : DataW Unit × List MemPlace) (h : keyR v = some y) : ∃ c, v = mk c := by
  obtain ⟨r, q, p, a, n, c, rfl, _⟩ := keyR_inv h
  exact ⟨(r, q, p, a, n, c), rfl⟩

set_option maxHeartbeats 800000 in
set_option maxRecDepth 100000 in
theorem chg_map (num ep : Int) (na : Option Addr) (nn nc : Nat) (rd wr : Int) (tn tc : Nat) (la : Option Addr) (ln lc : Nat) (b n : Nat) (hm : Bool) (D : DataW Unit) (w : World) (hown : w.ownsMap Try.prog 9 keyR b n D) :
    Calls Try.prog 8 #[.agg #[.int .u64 num, .int .u64 ep, .slice na nn nc, .int .i64 rd, .int .i64 wr, .pointer none, .slice none tn tc, .slice la ln lc, .map (some b), .bool hm]] w fun e w' => (∃ r, e = .returned (.bool r) ∧ (r = true ↔ Hot D)) ∧ Below w.heap.size w w' := by
  have hs := Try.ne23
  have hblt := hown.lt
  go_enter Try.func8, Try.ntmps8
  go_wp2_with (at_range; refine wpList_range_own _ rfl _ 33 rfl 9 43 law Try.underlying33 keyR b n D rfl (hown.alloc _) ?_; intro w0 hrg0 hg0 hs0)
  go_frame
  simp only [World.size_alloc] at hrg0 hs0 ⊢
  have hB0 : Below w.heap.size w w0 := ((Below.refl _ _).alloc (Nat.le_refl _) _).grown hg0 (by simp) (by simp)
  clear hg0
  go_loopw [16] (fun _ wr => ∃ (left : Lit → Bool) (cnt : Nat), wr.ranges Try.prog 9 keyR b (w.heap.size + 1) n D left cnt ∧ Below w.heap.size w wr ∧ (∀ k, left k = true → Maps.has D k = true) ∧ (∀ k, Maps.has D k = true → left k = false → D.atKey k (bd false) = bd false)) (fun _ wr => wr.rangeLeft b (w.heap.size + 1))
  case atStart => exact ⟨_, _, hrg0, hB0, fun k hk => hk, fun k h1 h2 => by rw [h1] at h2; cases h2⟩
  case round =>
    obtain ⟨left, cnt, hrg, hB, hl1, hl2⟩ := hrel
    have HL : Hid ((∀ k, left k = true → Maps.has D k = true) ∧ (∀ k, Maps.has D k = true → left k = false → D.atKey k (bd false) = bd false)) := ⟨hl1, hl2⟩
    clear hl1 hl2 hrg0 hB0
    go_wp2_with (at_next; refine wpList_next_ranges _ rfl _ rfl 9 law keyR Value.string mk (fun key kl h => str_inv h) mk_inv b (w.heap.size + 1) n D left cnt rfl hrg ?_ ?_)
    · -- nothing is left
      intro _ hl0
      have HL0 : Hid (∀ kl, left kl = false) := hl0
      clear hl0
      go_wp2
      go_ret
      exact ⟨⟨false, rfl, not_hot fun k h1 => HL.out.2 k h1 (HL0.out k)⟩, hB⟩
    · -- an entry has come
      rintro x r q p a m c kl y1 y2 w1 cnt1 hkey hlk hR hat hrg1 hlt hg1 hs1 hen
      have HA : Hid (∀ zd, D.atKey kl zd = bd p.isSome) := fun zd => by rw [hat zd]; cases hR; rfl
      have HH : Hid (Maps.has D kl = true) := HL.out.1 kl hlk
      have HK : Hid (left kl = true ∧ keyOf Try.prog 9 (.string x) = some kl) := ⟨hlk, hkey⟩
      have hB1 : Below w.heap.size w w1 := hB.grown hg1 hB.size (fun j hj => by cases hj; omega)
      clear hkey hlk hat hg1
      simp only [mk] at hen ⊢
      cases p with
      | none =>
        go_wp2
        go_roundw
        case rel => exact ⟨_, cnt1, hrg1.alloc _, hB1.alloc hB1.size _, next_left HL.out (HA.out _)⟩
        case measure => rw [(hrg1.alloc _).left_eq, hrg.left_eq]; exact hlt
      | some p =>
        go_wp2
        go_ret
        exact ⟨⟨true, rfl, is_hot HH.out (HA.out _)⟩, hB1.alloc hB1.size _⟩

/-- CHANGING, whatever the configuration. -/
theorem chg_any (num ep : Int) (na : Option Addr) (nn nc : Nat) (rd wr : Int) (fr ta : Option Addr) (tn tc : Nat) (la : Option Addr) (ln lc : Nat) (km : Option Nat) (hm : Bool) (n : Nat) (D : DataW Unit) (w : World) (hown : ∀ b, km = some b → w.ownsMap Try.prog 9 keyR b n D) :
    Calls Try.prog 8 #[.agg #[.int .u64 num, .int .u64 ep, .slice na nn nc, .int .i64 rd, .int .i64 wr, .pointer fr, .slice ta tn tc, .slice la ln lc, .map km, .bool hm]] w fun e w' =>
      (∃ r, e = .returned (.bool r) ∧ (r = true ↔ (fr.isSome = true ∨ ta.isSome = true ∨ (km.isSome = true ∧ Hot D)))) ∧ Below w.heap.size w w' := by
  cases fr with
  | some x =>
    refine (chg_from num ep na nn nc rd wr x ta tn tc la ln lc km hm w).mono ?_
    rintro e w' ⟨rfl, hb⟩
    exact ⟨⟨true, rfl, by simp⟩, hb⟩
  | none =>
    cases ta with
    | some x =>
      refine (chg_to num ep na nn nc rd wr x tn tc la ln lc km hm w).mono ?_
      rintro e w' ⟨rfl, hb⟩
      exact ⟨⟨true, rfl, by simp⟩, hb⟩
    | none =>
      cases km with
      | none =>
        refine (chg_nil num ep na nn nc rd wr tn tc la ln lc hm w).mono ?_
        rintro e w' ⟨rfl, hb⟩
        exact ⟨⟨false, rfl, by simp⟩, hb⟩
      | some b =>
        refine (chg_map num ep na nn nc rd wr tn tc la ln lc b n hm D w (hown b rfl)).mono ?_
        rintro e w' ⟨⟨r, rfl, hr⟩, hb⟩
        exact ⟨⟨r, rfl, by simpa using hr⟩, hb⟩
end Go.Proofs.Qxb6627953a
