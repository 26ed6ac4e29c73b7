/-
  WALKS for seat b6627918a: zzRawReadsAs (8).
-/
import Derived.Test.Qxb6627918aMore
namespace Go.Proofs.Qxb6627918a
open Go.RowKit

theorem S_split (s : ByteArray) (j : Nat) (h : j < s.size) : S s = (S s).take j ++ ((s[j].toNat : Int) :: (S s).drop (j + 1)) := by
  conv => lhs; rw [← List.take_append_drop (j + 1) (S s), take_snoc s j h]
  simp

theorem esc_at_plain (s : ByteArray) (j : Nat) (h : j < s.size) (hs : special (s[j].toNat : Int) = false) :
    (esc (S s)).getD (esc ((S s).take j)).length 0 = (s[j].toNat : Int) ∧ (esc ((S s).take (j + 1))).length = (esc ((S s).take j)).length + 1 ∧ (esc ((S s).take j)).length + 1 ≤ (esc (S s)).length := by
  have e1 := S_split s j h
  have e2 : esc (S s) = esc ((S s).take j) ++ ((s[j].toNat : Int) :: esc ((S s).drop (j + 1))) := by
    conv => lhs; rw [e1, esc_append]
    simp [esc, hs]
  refine ⟨?_, ?_, ?_⟩
  · rw [e2]; simp [List.getD]
  · rw [take_snoc s j h, esc_append]; simp [esc, hs]
  · rw [e2]; simp

theorem esc_at_hit (s : ByteArray) (j : Nat) (h : j < s.size) (hs : special (s[j].toNat : Int) = true) :
    (esc (S s)).getD (esc ((S s).take j)).length 0 = 92 ∧ (esc (S s)).getD ((esc ((S s).take j)).length + 1) 0 = (s[j].toNat : Int) ∧ (esc ((S s).take (j + 1))).length = (esc ((S s).take j)).length + 2 ∧ (esc ((S s).take j)).length + 2 ≤ (esc (S s)).length := by
  have e1 := S_split s j h
  have e2 : esc (S s) = esc ((S s).take j) ++ (92 :: (s[j].toNat : Int) :: esc ((S s).drop (j + 1))) := by
    conv => lhs; rw [e1, esc_append]
    simp [esc, hs]
  refine ⟨?_, ?_, ?_, ?_⟩
  · rw [e2]; simp [List.getD]
  · rw [e2]; simp [List.getD]
  · rw [take_snoc s j h, esc_append]; simp [esc, hs]
  · rw [e2]; simp

set_option maxHeartbeats 400000 in
theorem reads_any (g o c n : Nat) (s : ByteArray) (w : World) (hs : s.size ≤ 1048576) (hn : Hid (n = (esc (S s)).length)) (hc : ∀ i, i < n → w.cell? ⟨g, o + i, none⟩ = some (.int .u8 ((esc (S s)).getD i 0))) :
    Calls Try.prog 8 #[.slice (some ⟨g, o, none⟩) n c, .string s] w fun e w' => e = .returned (.bool true) ∧ w' = w := by
  have hnb : n ≤ 2097152 := by have := (esc_le (S s)).2; rw [S_length, ← hn.out] at this; omega
  have Hc := hc
  replace Hc : Hid (∀ i, i < n → w.cell? ⟨g, o + i, none⟩ = some (.int .u8 ((esc (S s)).getD i 0))) := hc
  clear hc
  go_enter Try.func8, Try.ntmps8
  go_wp2
  go_loop [5, 6] (fun i j => ∃ p q : Nat, q ≤ s.size ∧ p ≤ n ∧ i = .int .i64 p ∧ j = .int .i64 q ∧ Hid (p = (esc ((S s).take q)).length)) (fun _ j => s.size - (intOf j).toNat)
  case atStart => exact ⟨0, 0, Nat.zero_le _, Nat.zero_le _, rfl, rfl, rfl⟩
  case round =>
    obtain ⟨p, q, hq, hpn, rfl, rfl, Hp⟩ := hrel
    by_cases hlt : q < s.size
    · cases hsp : special ((s[q]).toNat : Int)
      · obtain ⟨f1, f2, f3⟩ := esc_at_plain s q hlt hsp
        rw [← Hp.out] at f1 f2 f3
        rw [← hn.out] at f3
        have hcell := Hc.out p (by omega)
        rw [f1] at hcell
        have Hp2 : Hid (p + 1 = (esc ((S s).take (q + 1))).length) := f2.symm
        have hq1 : ((s[q].toNat : Int) == 34) = false := by simp [special] at hsp; simpa using hsp.1
        have hq2 : ((s[q].toNat : Int) == 92) = false := by simp [special] at hsp; simpa using hsp.2
        clear hsp f1 f2
        go_wp2
        go_round
        case rel => exact ⟨p + 1, q + 1, by omega, by omega, by go_num, by go_num, Hp2⟩
        case measure => simp [intOf]; omega
      · obtain ⟨f1, f1b, f2, f3⟩ := esc_at_hit s q hlt hsp
        rw [← Hp.out] at f1 f1b f2 f3
        rw [← hn.out] at f3
        have hcell := Hc.out p (by omega)
        rw [f1] at hcell
        have hcell2 := Hc.out (p + 1) (by omega)
        rw [f1b] at hcell2
        have Hp2 : Hid (p + 2 = (esc ((S s).take (q + 1))).length) := f2.symm
        by_cases hq1 : (s[q].toNat : Int) = 34
        · have hq3 : ((s[q].toNat : Int) != 34) = false := by simpa using hq1
          clear hsp f1 f2 f1b hq1
          go_wp2
          go_round
          case rel => exact ⟨p + 2, q + 1, by omega, by omega, by go_num, by go_num, Hp2⟩
          case measure => simp [intOf]; omega
        · have hq3 : ((s[q].toNat : Int) != 34) = true := by simpa using hq1
          have hq4 : ((s[q].toNat : Int) != 92) = false := by simp [special] at hsp; simp; omega
          clear hsp f1 f2 f1b hq1
          go_wp2
          go_round
          case rel => exact ⟨p + 2, q + 1, by omega, by omega, by go_num, by go_num, Hp2⟩
          case measure => simp [intOf]; omega
    · obtain rfl : q = s.size := by omega
      have hpe : p = n := by rw [Hp.out, hn.out, List.take_of_length_le (by rw [S_length]; omega)]
      subst hpe
      go_wp2
      go_ret
      exact ⟨rfl, rfl⟩
end Go.Proofs.Qxb6627918a
