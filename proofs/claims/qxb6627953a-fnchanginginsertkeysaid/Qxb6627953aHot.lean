/-
  PLAIN LAWS for seat b6627953a: which maps are hot (no Go in sight).
-/
import Derived.Test.Qxb6627953aChange
namespace Go.Proofs.Qxb6627953a
open Go.Maps

theorem kl_key (s : ByteArray) : WideAt.IsKeyLit (kl s) := trivial

theorem DD_isMap (N : Nat → ByteArray) (F : Nat → Option Addr) : ∀ n, IsMap (DD N F n)
  | 0 => isMap_empty
  | n + 1 => (DD_isMap N F n).put _ _

/-- Only names are keys. -/
theorem DD_has (N : Nat → ByteArray) (F : Nat → Option Addr) : ∀ n k, Maps.has (DD N F n) k = true → ∃ i, i < n ∧ k = kl (N i)
  | 0, k, h => by simp [DD, Maps.has] at h
  | n + 1, k, h => by
    by_cases e : k = kl (N n)
    · exact ⟨n, Nat.lt_succ_self n, e⟩
    · rw [DD, has_put_other e] at h
      obtain ⟨i, hi, e2⟩ := DD_has N F n k h
      exact ⟨i, Nat.lt_succ_of_lt hi, e2⟩

/-- Every name is a key. -/
theorem DD_mem (N : Nat → ByteArray) (F : Nat → Option Addr) : ∀ n i, i < n → Maps.has (DD N F n) (kl (N i)) = true
  | n + 1, i, h => by
    by_cases e : kl (N i) = kl (N n)
    · rw [e]; exact has_put_same (DD_isMap N F n) (kl_key _) _
    · rw [DD, has_put_other e]
      refine DD_mem N F n i ?_
      have : i ≠ n := fun e2 => e (by rw [e2])
      omega

/-- The map is hot just if one of its names, looked up, is. -/
theorem hot_iff (N : Nat → ByteArray) (F : Nat → Option Addr) (n : Nat) : Hot (DD N F n) ↔ ∃ i, i < n ∧ (DD N F n).atKey (kl (N i)) (bd false) = bd true := by
  constructor
  · rintro ⟨k, h1, h2⟩
    obtain ⟨i, hi, rfl⟩ := DD_has N F n k h1
    exact ⟨i, hi, h2⟩
  · rintro ⟨i, hi, h⟩
    exact ⟨_, DD_mem N F n i hi, h⟩

/-- The map of one key. -/
theorem hot_one (k : Lit) (hk : WideAt.IsKeyLit k) (b : Bool) : Hot ((DataW.map [] : DataW Unit).put k (bd b)) ↔ b = true := by
  constructor
  · rintro ⟨k', h1, h2⟩
    by_cases e : k' = k
    · subst e
      rw [atKey_put_same isMap_empty hk] at h2
      cases b with
      | true => rfl
      | false => exact (bd_ne (h := h2)).elim
    · rw [has_put_other e] at h1
      simp [Maps.has] at h1
  · rintro rfl
    exact ⟨k, has_put_same isMap_empty hk _, atKey_put_same isMap_empty hk _ _⟩

/-- A key put over whatever it held. -/
theorem hot_put (D : DataW Unit) (hD : IsMap D) (k : Lit) (hk : WideAt.IsKeyLit k) (b : Bool) : Hot (D.put k (bd b)) ↔ (Hot (D.del k) ∨ b = true) := by
  constructor
  · rintro ⟨k', h1, h2⟩
    by_cases e : k' = k
    · subst e
      rw [atKey_put_same hD hk] at h2
      cases b with
      | true => exact .inr rfl
      | false => exact (bd_ne (h := h2)).elim
    · rw [has_put_other e] at h1
      rw [atKey_put_other e] at h2
      exact .inl ⟨k', by rw [has_del_other e]; exact h1, by rw [atKey_del_other e]; exact h2⟩
  · rintro (⟨k', h1, h2⟩ | rfl)
    · have e : k' ≠ k := fun e => by rw [e, has_del_same] at h1; cases h1
      rw [has_del_other e] at h1
      rw [atKey_del_other e] at h2
      exact ⟨k', by rw [has_put_other e]; exact h1, by rw [atKey_put_other e]; exact h2⟩
    · exact ⟨k, has_put_same hD hk _, atKey_put_same hD hk _ _⟩

/-- What is looked up reads as a bool. -/
theorem atKey_bool (N : Nat → ByteArray) (F : Nat → Option Addr) : ∀ n k, ∃ b, (DD N F n).atKey k (bd false) = bd b
  | 0, k => ⟨false, by simp [DD, DataW.atKey]⟩
  | n + 1, k => by
    by_cases e : k = kl (N n)
    · subst e
      exact ⟨_, atKey_put_same (DD_isMap N F n) (kl_key _) _ _⟩
    · rw [DD, atKey_put_other e]
      exact atKey_bool N F n k

end Go.Proofs.Qxb6627953a
