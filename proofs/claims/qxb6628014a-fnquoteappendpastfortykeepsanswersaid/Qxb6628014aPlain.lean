/-
  PLAIN LAWS for seat b6628014a: the width of one step of decoding, the start of each character, cuts.
-/
import Derived.Laws.RangeAny
import Derived.Laws.Strings
namespace Go.Proofs.Qxb6628014a

/-- The byte at j, as a number. -/
def g (s : ByteArray) (j : Nat) : Nat := (s.get! j).toNat
theorem g_lt (s : ByteArray) (j : Nat) : g s j < 256 := (s.get! j).toNat_lt

/-- The least and the greatest second byte behind the leading byte c. -/
def lo (c : Nat) : Nat := if c = 224 then 160 else if c = 240 then 144 else 128
def hi (c : Nat) : Nat := if c = 237 then 159 else if c = 244 then 143 else 191

/-- The width of the step at bytes c, b1, b2, b3, r bytes being left. -/
def W (c b1 b2 b3 r : Nat) : Nat :=
  if c < 128 then 1
  else if c < 194 then 1
  else if c ≤ 223 then (if 2 ≤ r ∧ 128 ≤ b1 ∧ b1 ≤ 191 then 2 else 1)
  else if c ≤ 239 then (if 3 ≤ r ∧ lo c ≤ b1 ∧ b1 ≤ hi c ∧ 128 ≤ b2 ∧ b2 ≤ 191 then 3 else 1)
  else if c ≤ 244 then (if 4 ≤ r ∧ lo c ≤ b1 ∧ b1 ≤ hi c ∧ 128 ≤ b2 ∧ b2 ≤ 191 ∧ 128 ≤ b3 ∧ b3 ≤ 191 then 4 else 1)
  else 1

/-- The width of the step at i. -/
def wd (s : ByteArray) (i : Nat) : Nat := (Utf8.decode s i).2

theorem div64 (b : Nat) : (b / 64 == 2) = decide (128 ≤ b ∧ b ≤ 191) := by
  rw [Bool.eq_iff_iff]; simp; omega

theorem wd_eq (s : ByteArray) (i : Nat) : wd s i = W (g s i) (g s (i + 1)) (g s (i + 2)) (g s (i + 3)) (s.size - i) := by
  have h0 := g_lt s i
  have h1 := g_lt s (i + 1)
  have h2 := g_lt s (i + 2)
  have h3 := g_lt s (i + 3)
  unfold wd Utf8.decode
  have e0 : (s.get! (i + 0)).toNat = g s i := rfl
  have e1 : (s.get! (i + 1)).toNat = g s (i + 1) := rfl
  have e2 : (s.get! (i + 2)).toNat = g s (i + 2) := rfl
  have e3 : (s.get! (i + 3)).toNat = g s (i + 3) := rfl
  simp only [e0, e1, e2, e3, div64]
  generalize g s i = c at *
  generalize g s (i + 1) = b1 at *
  generalize g s (i + 2) = b2 at *
  generalize g s (i + 3) = b3 at *
  clear e0 e1 e2 e3
  generalize hr : s.size - i = r
  have r1 : (i + 1 < s.size) ↔ 2 ≤ r := by omega
  have r2 : (i + 2 < s.size) ↔ 3 ≤ r := by omega
  have r3 : (i + 3 < s.size) ↔ 4 ≤ r := by omega
  simp only [Utf8.valid, Bool.and_eq_true, Bool.or_eq_true, decide_eq_true_eq, beq_iff_eq, ge_iff_le, r1, r2, r3]
  clear r1 r2 r3 hr
  by_cases q0 : c < 194
  · have hW : W c b1 b2 b3 r = 1 := by unfold W; simp [q0]
    rw [hW]
    repeat' split
    all_goals first | rfl | (exfalso; omega)
  · by_cases q1 : c ≤ 223
    · have hW : W c b1 b2 b3 r = if 2 ≤ r ∧ 128 ≤ b1 ∧ b1 ≤ 191 then 2 else 1 := by unfold W; simp [q0, q1, show ¬ c < 128 by omega]
      rw [hW]
      clear hW
      repeat' split
      all_goals first | rfl | (exfalso; omega)
    · by_cases q2 : c ≤ 239
      · have hW : W c b1 b2 b3 r = if 3 ≤ r ∧ lo c ≤ b1 ∧ b1 ≤ hi c ∧ 128 ≤ b2 ∧ b2 ≤ 191 then 3 else 1 := by unfold W; simp [q0, q1, q2, show ¬ c < 128 by omega]
        rw [hW]
        clear hW
        unfold lo hi
        repeat' split
        all_goals first | rfl | (exfalso; omega)
      · by_cases q3 : c ≤ 244
        · have hW : W c b1 b2 b3 r = if 4 ≤ r ∧ lo c ≤ b1 ∧ b1 ≤ hi c ∧ 128 ≤ b2 ∧ b2 ≤ 191 ∧ 128 ≤ b3 ∧ b3 ≤ 191 then 4 else 1 := by unfold W; simp [q0, q1, q2, q3, show ¬ c < 128 by omega]
          rw [hW]
          clear hW
          unfold lo hi
          repeat' split
          all_goals first | rfl | (exfalso; omega)
        · have hW : W c b1 b2 b3 r = 1 := by unfold W; simp [q0, q1, q2, q3]
          rw [hW]
          repeat' split
          all_goals first | rfl | (exfalso; omega)

theorem wd_pos (s : ByteArray) (i : Nat) : 1 ≤ wd s i ∧ wd s i ≤ 4 := by
  rw [wd_eq]
  unfold W
  repeat' split
  all_goals omega

/-- Fewer bytes left: a step that still fits stays as it was. -/
theorem W_cut (c b1 b2 b3 b1' b2' b3' r r' : Nat) (hr : r' ≤ r) (h1 : 2 ≤ r' → b1' = b1) (h2 : 3 ≤ r' → b2' = b2) (h3 : 4 ≤ r' → b3' = b3) (hf : W c b1 b2 b3 r ≤ r') :
    W c b1' b2' b3' r' = W c b1 b2 b3 r := by
  unfold W at hf ⊢
  by_cases a0 : c < 128
  · simp [a0]
  · by_cases a1 : c < 194
    · simp [a1]
    · by_cases a2 : c ≤ 223
      · simp only [a0, a1, a2, if_true, if_false] at hf ⊢
        repeat' split
        all_goals (simp_all; try omega)
      · by_cases a3 : c ≤ 239
        · simp only [a0, a1, a2, a3, if_true, if_false] at hf ⊢
          repeat' split
          all_goals (simp_all; try omega)
        · by_cases a4 : c ≤ 244
          · simp only [a0, a1, a2, a3, a4, if_true, if_false] at hf ⊢
            repeat' split
            all_goals (simp_all; try omega)
          · simp [a1, a2, a3, a4]
end Go.Proofs.Qxb6628014a
