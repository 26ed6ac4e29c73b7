/-
  THE LEADING BYTES (zzStepWidth), seat b6628014a: it answers the width of the model's own decoding.
-/
import Derived.Test.Qxb6628014aCuts
namespace Go.Proofs.Qxb6628014a

/-- A leading byte c asks for n bytes, the second between l and h. -/
def Lead (c n l h : Nat) : Prop := (194 ≤ c ∧ c ≤ 223 ∧ n = 2 ∧ l = 128 ∧ h = 191) ∨ (224 ≤ c ∧ c ≤ 239 ∧ n = 3 ∧ l = lo c ∧ h = hi c) ∨ (240 ≤ c ∧ c ≤ 244 ∧ n = 4 ∧ l = lo c ∧ h = hi c)

theorem wd_lead (s : ByteArray) (i n l h : Nat) (hl : Lead (g s i) n l h) :
    (wd s i = n ∧ n ≤ s.size - i ∧ l ≤ g s (i + 1) ∧ g s (i + 1) ≤ h ∧ ∀ t, 2 ≤ t → t < n → 128 ≤ g s (i + t) ∧ g s (i + t) ≤ 191) ∨
    (wd s i = 1 ∧ ¬ (n ≤ s.size - i ∧ l ≤ g s (i + 1) ∧ g s (i + 1) ≤ h ∧ ∀ t, 2 ≤ t → t < n → 128 ≤ g s (i + t) ∧ g s (i + t) ≤ 191)) := by
  have e := wd_eq s i
  rcases hl with ⟨h1, h2, rfl, rfl, rfl⟩ | ⟨h1, h2, rfl, rfl, rfl⟩ | ⟨h1, h2, rfl, rfl, rfl⟩
  · unfold W at e
    rw [if_neg (by omega), if_neg (by omega), if_pos h2] at e
    by_cases q : 2 ≤ s.size - i ∧ 128 ≤ g s (i + 1) ∧ g s (i + 1) ≤ 191
    · rw [if_pos q] at e
      exact .inl ⟨e, q.1, q.2.1, q.2.2, fun t _ _ => by omega⟩
    · rw [if_neg q] at e
      exact .inr ⟨e, fun k => q ⟨k.1, k.2.1, k.2.2.1⟩⟩
  · unfold W at e
    rw [if_neg (by omega), if_neg (by omega), if_neg (by omega), if_pos h2] at e
    by_cases q : 3 ≤ s.size - i ∧ lo (g s i) ≤ g s (i + 1) ∧ g s (i + 1) ≤ hi (g s i) ∧ 128 ≤ g s (i + 2) ∧ g s (i + 2) ≤ 191
    · rw [if_pos q] at e
      refine .inl ⟨e, q.1, q.2.1, q.2.2.1, fun t h3 h4 => ?_⟩
      obtain rfl : t = 2 := by omega
      exact q.2.2.2
    · rw [if_neg q] at e
      exact .inr ⟨e, fun k => q ⟨k.1, k.2.1, k.2.2.1, k.2.2.2 2 (by omega) (by omega)⟩⟩
  · unfold W at e
    rw [if_neg (by omega), if_neg (by omega), if_neg (by omega), if_neg (by omega), if_pos h2] at e
    by_cases q : 4 ≤ s.size - i ∧ lo (g s i) ≤ g s (i + 1) ∧ g s (i + 1) ≤ hi (g s i) ∧ 128 ≤ g s (i + 2) ∧ g s (i + 2) ≤ 191 ∧ 128 ≤ g s (i + 3) ∧ g s (i + 3) ≤ 191
    · rw [if_pos q] at e
      refine .inl ⟨e, q.1, q.2.1, q.2.2.1, fun t h3 h4 => ?_⟩
      by_cases ht : t = 2
      · subst ht; exact ⟨q.2.2.2.1, q.2.2.2.2.1⟩
      · obtain rfl : t = 3 := by omega
        exact q.2.2.2.2.2
    · rw [if_neg q] at e
      exact .inr ⟨e, fun k => q ⟨k.1, k.2.1, k.2.2.1, (k.2.2.2 2 (by omega) (by omega)).1, (k.2.2.2 2 (by omega) (by omega)).2, k.2.2.2 3 (by omega) (by omega)⟩⟩

theorem lead_not {s : ByteArray} {i n l h : Nat} (hl : Lead (g s i) n l h) (hn : ¬ (n ≤ s.size - i ∧ l ≤ g s (i + 1) ∧ g s (i + 1) ≤ h ∧ ∀ t, 2 ≤ t → t < n → 128 ≤ g s (i + t) ∧ g s (i + t) ≤ 191)) : wd s i = 1 := by
  rcases wd_lead s i n l h hl with h1 | h1
  · exact absurd h1.2 hn
  · exact h1.1
theorem lead_all {s : ByteArray} {i n l h : Nat} (hl : Lead (g s i) n l h) (hn : n ≤ s.size - i ∧ l ≤ g s (i + 1) ∧ g s (i + 1) ≤ h ∧ ∀ t, 2 ≤ t → t < n → 128 ≤ g s (i + t) ∧ g s (i + t) ≤ 191) : wd s i = n := by
  rcases wd_lead s i n l h hl with h1 | h1
  · exact h1.1
  · exact absurd hn h1.2

theorem wd_else (s : ByteArray) (i : Nat) (h : g s i < 194 ∨ 244 < g s i) : wd s i = 1 := by
  rw [wd_eq]
  unfold W
  repeat' split
  all_goals omega

theorem leadC {c : Nat} (h1 : 194 ≤ c) (h2 : c ≤ 223) : Lead c 2 128 191 := by
  exact .inl ⟨h1, h2, rfl, rfl, rfl⟩
theorem leadD {c : Nat} (h1 : 224 ≤ c) (h2 : c ≤ 224) : Lead c 3 160 191 := by
  exact .inr (.inl ⟨by omega, by omega, rfl, by unfold lo; (repeat' split) <;> omega, by unfold hi; (repeat' split) <;> omega⟩)
theorem leadE {c : Nat} (h1 : 225 ≤ c) (h2 : c ≤ 236) : Lead c 3 128 191 := by
  exact .inr (.inl ⟨by omega, by omega, rfl, by unfold lo; (repeat' split) <;> omega, by unfold hi; (repeat' split) <;> omega⟩)
theorem leadF {c : Nat} (h1 : 238 ≤ c) (h2 : c ≤ 238) : Lead c 3 128 191 := by
  exact .inr (.inl ⟨by omega, by omega, rfl, by unfold lo; (repeat' split) <;> omega, by unfold hi; (repeat' split) <;> omega⟩)
theorem leadG {c : Nat} (h1 : 239 ≤ c) (h2 : c ≤ 239) : Lead c 3 128 191 := by
  exact .inr (.inl ⟨by omega, by omega, rfl, by unfold lo; (repeat' split) <;> omega, by unfold hi; (repeat' split) <;> omega⟩)
theorem leadH {c : Nat} (h1 : 237 ≤ c) (h2 : c ≤ 237) : Lead c 3 128 159 := by
  exact .inr (.inl ⟨by omega, by omega, rfl, by unfold lo; (repeat' split) <;> omega, by unfold hi; (repeat' split) <;> omega⟩)
theorem leadI {c : Nat} (h1 : 240 ≤ c) (h2 : c ≤ 240) : Lead c 4 144 191 := by
  exact .inr (.inr ⟨by omega, by omega, rfl, by unfold lo; (repeat' split) <;> omega, by unfold hi; (repeat' split) <;> omega⟩)
theorem leadJ {c : Nat} (h1 : 241 ≤ c) (h2 : c ≤ 243) : Lead c 4 128 191 := by
  exact .inr (.inr ⟨by omega, by omega, rfl, by unfold lo; (repeat' split) <;> omega, by unfold hi; (repeat' split) <;> omega⟩)
theorem leadK {c : Nat} (h1 : 244 ≤ c) (h2 : c ≤ 244) : Lead c 4 128 143 := by
  exact .inr (.inr ⟨by omega, by omega, rfl, by unfold lo; (repeat' split) <;> omega, by unfold hi; (repeat' split) <;> omega⟩)
end Go.Proofs.Qxb6628014a
