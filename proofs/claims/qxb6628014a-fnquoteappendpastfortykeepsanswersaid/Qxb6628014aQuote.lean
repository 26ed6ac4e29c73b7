/-
  THE WALKS of the bounds (5, 8) and of Quote (7), seat b6628014a.
-/
import Derived.Test.Qxb6628014aRows
import Derived.Test.Qxb6628014aCuts
import Derived.WalkKit
import Derived.WalkSpells
import Derived.WalkLawsBesides
import Derived.RowKit3
namespace Go.Proofs.Qxb6628014a
open Go.RowKit

theorem frozen_iter (w : World) (s : ByteArray) (p : Nat) (a : Addr) : (w.iter s p).frozen? a = w.frozen? a := by
  by_cases h : a.block = w.heap.size
  · have e1 : (w.iter s p).heap[a.block]? = some (.stringIter s p) := by rw [h]; exact World.iter_heap w s p
    have e2 : w.heap[a.block]? = none := by rw [h]; simp
    simp [World.frozen?, e1, e2]
  · exact World.frozen?_alloc_old _ _ _ h
theorem grown_iter {W w' : World} (h : Grown W w') (s : ByteArray) (p : Nat) : Grown W (w'.iter s p) :=
  ⟨World.keptBut_trans h.1 (World.keptBut_alloc _ _ _), fun a => (frozen_iter _ _ _ a).trans (h.2.1 a), Nat.le_trans h.2.2 (by show w'.heap.size ≤ (w'.heap.push _).size; simp)⟩
theorem grown_trans {a b c : World} (h : Grown a b) (k : Grown b c) : Grown a c :=
  ⟨World.keptBut_trans h.1 k.1, fun x => (k.2.1 x).trans (h.2.1 x), Nat.le_trans h.2.2 k.2.2⟩

/-- A bool is returned, the world as it was; T holds of the bool. -/
def Ans (e : Ending) (w w' : World) (T : Bool → Prop) : Prop := ∃ r, e = .returned (.bool r) ∧ w' = w ∧ T r
theorem Ans.mk {e : Ending} {w w' : World} {T : Bool → Prop} {r : Bool} (h : e = .returned (.bool r)) (hb : w' = w) (ht : T r) : Ans e w w' T := ⟨r, h, hb, ht⟩

set_option maxHeartbeats 800000 in
theorem bytes5 (s : ByteArray) (k : Int) (w : World) (hs : s.size ≤ maxLen) :
    Calls Try.prog 5 #[.string s, .int .i64 k] w fun e w' => Ans e w w' (fun r => r = true → s.size ≤ 1048576) := by
  unfold maxLen at hs
  by_cases h1 : s.size ≤ 1048576
  · go_enter Try.func5, Try.ntmps5
    go_wp2
    go_ret
    exact Ans.mk (r := true) rfl rfl (fun _ => h1)
  · go_enter Try.func5, Try.ntmps5
    go_wp2
    go_ret
    exact Ans.mk (r := false) rfl rfl (fun h => by cases h)

set_option maxHeartbeats 800000 in
theorem bytes8 (s t : ByteArray) (w : World) (hs : s.size ≤ maxLen) (ht : t.size ≤ maxLen) :
    Calls Try.prog 8 #[.string s, .string t] w fun e w' => Ans e w w' (fun r => r = true → s.size + t.size ≤ 1048576) := by
  unfold maxLen at hs ht
  by_cases h1 : s.size ≤ 1048576
  · by_cases h2 : t.size ≤ 1048576
    · by_cases h3 : s.size + t.size ≤ 1048576
      · go_enter Try.func8, Try.ntmps8
        go_wp2
        go_ret
        exact Ans.mk (r := true) rfl rfl (fun _ => h3)
      · go_enter Try.func8, Try.ntmps8
        go_wp2
        go_ret
        exact Ans.mk (r := false) rfl rfl (fun h => by cases h)
    · go_enter Try.func8, Try.ntmps8
      go_wp2
      go_ret
      exact Ans.mk (r := false) rfl rfl (fun h => by cases h)
  · go_enter Try.func8, Try.ntmps8
    go_wp2
    go_ret
    exact Ans.mk (r := false) rfl rfl (fun h => by cases h)

set_option maxHeartbeats 2000000 in
set_option maxRecDepth 100000 in
theorem quote_any (s : ByteArray) (w : World) (hs : s.size ≤ 1048576) :
    Calls Try.prog 7 #[.string s] w fun e w' => e = .returned (.string (Quo s)) ∧ Grown w w' := by
  go_enter Try.func7, Try.ntmps7
  go_wp2
  go_loopw [3] (fun n wr => ∃ c : Nat, c ≤ 40 ∧ n = .int .i64 c ∧ wr = w.iter s (P s c)) (fun _ wr => s.size - wr.iterPos w.heap.size)
  case atStart => exact ⟨0, by omega, rfl, rfl⟩
  case round =>
    obtain ⟨c, hc, rfl, rfl⟩ := hrel
    by_cases hp : P s c < s.size
    · have hnx : ∀ ty, (Instr.next (.pointer (some ⟨w.heap.size, 0, none⟩)) true ty).run Try.prog (w.iter s (P s c)) = .ok (.tuple #[.bool true, .int .i64 (P s c), .int .i32 (Utf8.decode s (P s c)).1]) (w.iter s (P s (c + 1))) := fun ty => run_next_any w s (P s c) ty hp
      by_cases h4 : c = 40
      · have HQ : Hid (Quo s = ⟨#[39]⟩ ++ s.extract 0 (P s c) ++ ⟨#[46, 46, 46, 39]⟩) := by rw [h4]; exact quo_long s (by rw [← h4]; exact hp)
        have hq : ((c : Int) == 40) = true := by rw [beq_iff_eq]; omega
        have hz := size_cut s (P s c) (by omega)
        clear h4
        go_wp2
        go_ret
        exact ⟨by rw [HQ.out]; rfl, grown_iter (Grown.refl _) _ _⟩
      · have hq : ((c : Int) == 40) = false := by rw [beq_eq_false_iff_ne]; omega
        have hwd := (wd_pos s (P s c)).1
        have hps := P_succ s c
        go_wp2
        go_roundw
        case rel => exact ⟨c + 1, by omega, by go_num, rfl⟩
        case measure => simp; omega
    · have hnx : ∀ ty, (Instr.next (.pointer (some ⟨w.heap.size, 0, none⟩)) true ty).run Try.prog (w.iter s (P s c)) = .ok (.tuple #[.bool false]) (w.iter s (P s c)) := fun ty => run_next_end w s (P s c) ty hp
      have HQ : Hid (Quo s = ⟨#[39]⟩ ++ s ++ ⟨#[39]⟩) := quo_short s (by have := P_mono s hc; omega)
      go_wp2
      go_ret
      exact ⟨by rw [HQ.out]; rfl, grown_iter (Grown.refl _) _ _⟩
end Go.Proofs.Qxb6628014a
