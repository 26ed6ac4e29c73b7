/-
  PLAIN LAWS, the second part, for seat b6628014a: the starts of the characters; what a cut and an appended text leave of them.
-/
import Derived.Test.Qxb6628014aPlain
namespace Go.Proofs.Qxb6628014a

/-- Where character number c begins. -/
def P (s : ByteArray) : Nat → Nat
  | 0 => 0
  | c + 1 => P s c + wd s (P s c)

theorem P_succ (s : ByteArray) (c : Nat) : P s (c + 1) = P s c + wd s (P s c) := rfl
theorem P_le (s : ByteArray) (c : Nat) : ∀ k, P s c ≤ P s (c + k)
  | 0 => Nat.le_refl _
  | k + 1 => Nat.le_trans (P_le s c k) (Nat.le_add_right _ _)
theorem P_mono (s : ByteArray) {c d : Nat} (h : c ≤ d) : P s c ≤ P s d := by
  have := P_le s c (d - c)
  rwa [show c + (d - c) = d by omega] at this
theorem P_lt (s : ByteArray) {c d : Nat} (h : c < d) : P s c < P s d := by
  have h1 := P_mono s (show c + 1 ≤ d by omega)
  have h2 := (wd_pos s (P s c)).1
  rw [P_succ] at h1
  omega

theorem get_lt (s : ByteArray) (j : Nat) (h : j < s.size) : s.get! j = s[j]'h := by
  simp [ByteArray.get!, getElem!_pos, h]
  rfl
theorem g_at (s : ByteArray) (j : Nat) (h : j < s.size) : g s j = (s[j]'h).toNat := by
  unfold g
  rw [get_lt s j h]

theorem size_cut (s : ByteArray) (k : Nat) (h : k ≤ s.size) : (s.extract 0 k).size = k := by
  rw [ByteArray.size_extract]
  omega

theorem g_cut (s : ByteArray) (k j : Nat) (h : k ≤ s.size) (hj : j < k) : g (s.extract 0 k) j = g s j := by
  rw [g_at _ j (by rw [size_cut s k h]; exact hj), g_at s j (by omega), ByteArray.getElem_extract]
  simp

theorem wd_cut (s : ByteArray) (k i : Nat) (h : k ≤ s.size) (hf : i + wd s i ≤ k) : wd (s.extract 0 k) i = wd s i := by
  have hp := (wd_pos s i).1
  rw [wd_eq (s.extract 0 k), wd_eq s] at *
  rw [g_cut s k i h (by omega), size_cut s k h]
  refine W_cut _ _ _ _ _ _ _ _ _ (by omega) (fun h1 => g_cut s k (i + 1) h (by omega)) (fun h1 => g_cut s k (i + 2) h (by omega)) (fun h1 => g_cut s k (i + 3) h (by omega)) (by omega)

/-- The starts in a part at the front: as long as the steps fit. -/
theorem P_cut (s : ByteArray) (k : Nat) (h : k ≤ s.size) : ∀ c, (∀ d, d < c → P s d + wd s (P s d) ≤ k) → P (s.extract 0 k) c = P s c
  | 0, _ => rfl
  | c + 1, hf => by
    have ih := P_cut s k h c (fun d hd => hf d (by omega))
    rw [P_succ, P_succ, ih, wd_cut s k (P s c) h (hf c (by omega))]

/-- A cut at or behind the start of character number c keeps the starts up to it. -/
theorem P_front (s : ByteArray) (c k : Nat) (h : k ≤ s.size) (hk : P s c ≤ k) : P (s.extract 0 k) c = P s c :=
  P_cut s k h c (fun d hd => by
    have := P_mono s (show d + 1 ≤ c by omega)
    rw [P_succ] at this
    omega)

theorem cut_cut (s : ByteArray) (j k : Nat) (h : k ≤ j) : (s.extract 0 j).extract 0 k = s.extract 0 k := by
  simp [ByteArray.extract_extract, Nat.min_eq_left h]

theorem app_cut (s t : ByteArray) : (s ++ t).extract 0 s.size = s := by
  apply ByteArray.ext
  rw [ByteArray.data_extract, ByteArray.data_append]
  show (s.data ++ t.data).extract 0 s.data.size = s.data
  simp [Array.extract_append]

theorem app_cut_le (s t : ByteArray) (k : Nat) (h : k ≤ s.size) : (s ++ t).extract 0 k = s.extract 0 k := by
  have := cut_cut (s ++ t) s.size k h
  rw [app_cut] at this
  exact this.symm

/-- An appended text keeps the starts, where three bytes lie behind. -/
theorem P_app (s t : ByteArray) (c : Nat) (hk : P s c + 3 ≤ s.size) : P (s ++ t) c = P s c := by
  have key : ∀ d, d ≤ c → P (s ++ t) d = P s d := by
    intro d
    induction d with
    | zero => intro _; rfl
    | succ d ih =>
      intro hd
      have e := ih (by omega)
      have h1 := P_lt s (show d < c by omega)
      have h2 := (wd_pos (s ++ t) (P s d)).2
      have h3 := wd_cut (s ++ t) s.size (P s d) (by rw [ByteArray.size_append]; omega) (by omega)
      rw [app_cut] at h3
      rw [P_succ, P_succ, e, h3]
  exact key c (Nat.le_refl _)

/-- What Quote answers. -/
def Quo (s : ByteArray) : ByteArray := if P s 40 < s.size then ⟨#[39]⟩ ++ s.extract 0 (P s 40) ++ ⟨#[46, 46, 46, 39]⟩ else ⟨#[39]⟩ ++ s ++ ⟨#[39]⟩

theorem quo_long (s : ByteArray) (h : P s 40 < s.size) : Quo s = ⟨#[39]⟩ ++ s.extract 0 (P s 40) ++ ⟨#[46, 46, 46, 39]⟩ := by unfold Quo; rw [if_pos h]
theorem quo_short (s : ByteArray) (h : ¬ P s 40 < s.size) : Quo s = ⟨#[39]⟩ ++ s ++ ⟨#[39]⟩ := by unfold Quo; rw [if_neg h]

theorem quo_self (s : ByteArray) (h : P s 40 < s.size) : Quo (s.extract 0 (P s 40)) = ⟨#[39]⟩ ++ s.extract 0 (P s 40) ++ ⟨#[39]⟩ := by
  refine quo_short _ ?_
  rw [P_front s 40 _ (by omega) (Nat.le_refl _), size_cut s _ (by omega)]
  omega

theorem quo_cut (s : ByteArray) (j : Nat) (hj : P s 40 < j) (hs : j ≤ s.size) : Quo (s.extract 0 j) = ⟨#[39]⟩ ++ s.extract 0 (P s 40) ++ ⟨#[46, 46, 46, 39]⟩ := by
  have e := P_front s 40 j hs (by omega)
  rw [quo_long _ (by rw [e, size_cut s j hs]; exact hj), e, cut_cut s j _ (by omega)]

theorem quo_app (s t : ByteArray) (h : P s 40 + 3 ≤ s.size) : Quo (s ++ t) = ⟨#[39]⟩ ++ s.extract 0 (P s 40) ++ ⟨#[46, 46, 46, 39]⟩ := by
  have e := P_app s t 40 h
  rw [quo_long _ (by rw [e, ByteArray.size_append]; omega), e, app_cut_le s t _ (by omega)]
end Go.Proofs.Qxb6628014a
