/-
  WALKS for seat b6627918a: AppendRawString (7).
-/
import Derived.Test.Qxb6627918aRows
import Derived.Test.Qxb6627918aPlain
import Derived.WalkKit
import Derived.WalkSpells
namespace Go.Proofs.Qxb6627918a
open Go.RowKit

theorem Try.info5 : (Try.prog.info? 5).map (fun i => (i.zero, i.size, i.bytes)) = some (some (.int .u8 0), 1, 1) := by kernel_rfl

theorem rawlen (zs : List Int) (s : ByteArray) (g : Nat) (hz : zs.length ≤ 1048576) (hs : s.size ≤ 1048576) (hg : g ≤ s.size) : (zs ++ 34 :: esc ((S s).take g)).length ≤ 4000000 := by
  have := (esc_le ((S s).take g)).2
  rw [List.length_take, S_length] at this
  simp
  omega

theorem hit_eq {zs : List Int} {s : ByteArray} {g k : Nat} {c : Int} (H : Hid (esc ((S s).take (k + 1)) = esc ((S s).take g) ++ (((S s).take k).drop g ++ [92, c]))) :
    ((zs ++ 34 :: esc ((S s).take g)) ++ S (s.extract g k)) ++ [92, c] = zs ++ 34 :: esc ((S s).take (k + 1)) := by
  rw [S_extract, H.out]; simp

theorem end_eq {zs : List Int} {s : ByteArray} {g : Nat} (hp : plain (((S s).take s.size).drop g)) :
    ((zs ++ 34 :: esc ((S s).take g)) ++ S (s.extract g s.size)) ++ [34] = zs ++ 34 :: (esc (S s) ++ [34]) := by
  rw [S_extract, esc_end s g hp]; simp

set_option maxHeartbeats 400000 in
theorem raw_any (v : Value) (zs : List Int) (s : ByteArray) (base : Nat) (w : World) (hown : w.ownsRow base 5 1 v zs.length (zs.map (Value.int .u8))) (hb : base ≤ w.heap.size)
    (hz : zs.length ≤ 1048576) (hs : s.size ≤ 1048576) :
    Calls Try.prog 7 #[v, .string s] w fun e w' => ∃ v', e = .returned v' ∧ Onto w base v w' v' (zs ++ 34 :: (esc (S s) ++ [34])) := by
  obtain ⟨i0, hi, hz0, hz1, hz2⟩ := info_parts Try.info5
  have h0 := Onto.start hown
  clear hown
  go_enter Try.func7, Try.ntmps7
  go_wp2_with (at_builtin; refine wp_cells _ rfl _ _ 22 rfl [34] _ rfl i0 Try.underlying22 hi hz0 hz1 hz2 rfl h0 _ rfl (by simp; omega) hb ?_; intro v1 w1 h1)
  go_loopw [0, 5, 6] (fun x f i wr => ∃ k g : Nat, g ≤ k ∧ k ≤ s.size ∧ f = .int .i64 g ∧ i = .int .i64 k ∧ plain (((S s).take k).drop g) ∧ Onto w base v wr x (zs ++ 34 :: esc ((S s).take g))) (fun _ _ i _ => s.size - (intOf i).toNat)
  case atStart => exact ⟨0, 0, Nat.le_refl _, Nat.zero_le _, rfl, rfl, plain_nil _ _, h1⟩
  case round =>
    obtain ⟨k, g, hgk, hk, rfl, rfl, hp, hO⟩ := hrel
    have hlen := rawlen zs s g hz hs (by omega)
    clear h0 h1
    have hsz : (s.extract g k).size ≤ 1048576 := by rw [ByteArray.size_extract]; omega
    by_cases hlt : k < s.size
    · cases hsp : special ((s[k]).toNat : Int)
      · have hpl := plain_snoc s g k hgk hlt hp hsp
        have hq1 : ((s[k].toNat : Int) == 34) = false := by simp [special] at hsp; simpa using hsp.1
        have hq2 : ((s[k].toNat : Int) == 92) = false := by simp [special] at hsp; simpa using hsp.2
        clear hp hsp
        go_wp2
        go_roundw
        case rel => exact ⟨k + 1, g, by omega, by omega, rfl, by go_num, hpl, hO⟩
        case measure => simp [intOf]; omega
      · have Hp : Hid (esc ((S s).take (k + 1)) = esc ((S s).take g) ++ (((S s).take k).drop g ++ [92, ((s[k]).toNat : Int)])) := esc_hit s g k hgk hlt hp hsp
        have hpl := plain_nil s (k + 1)
        have hq2 : ((s[k].toNat : Int) == 34) = false → ((s[k].toNat : Int) == 92) = true := by simp [special] at hsp; simp; omega
        clear hp hsp
        cases hq1 : ((s[k].toNat : Int) == 34)
        all_goals
          try simp only [hq1, true_implies] at hq2
          go_wp2_with (first
            | (at_builtin; refine wp_string _ rfl _ _ 22 9 rfl i0 Try.underlying22 Try.underlying9 hi hz0 hz1 hz2 rfl hO _ rfl (by omega) hb ?_; intro v2 w2 h2)
            | (at_builtin; refine wp_cells _ rfl _ _ 22 rfl [92, ((s[k]).toNat : Int)] _ rfl i0 Try.underlying22 hi hz0 hz1 hz2 rfl h2 _ rfl (by rw [List.length_append, S_length]; show _ + 2 ≤ _; omega) hb ?_; intro v3 w3 h3))
          rw [hit_eq Hp] at h3
          go_roundw
          case rel => exact ⟨k + 1, k + 1, by omega, by omega, by go_num, by go_num, hpl, h3⟩
          case measure => simp [intOf]; omega
    · obtain rfl : k = s.size := by omega
      have hsz2 : (s.extract g s.size).size ≤ 1048576 := by rw [ByteArray.size_extract]; omega
      go_wp2_with (first
            | (at_builtin; refine wp_string _ rfl _ _ 22 9 rfl i0 Try.underlying22 Try.underlying9 hi hz0 hz1 hz2 rfl hO _ rfl (by omega) hb ?_; intro v2 w2 h2)
            | (at_builtin; refine wp_cells _ rfl _ _ 22 rfl [34] _ rfl i0 Try.underlying22 hi hz0 hz1 hz2 rfl h2 _ rfl (by rw [List.length_append, S_length]; show _ + 1 ≤ _; omega) hb ?_; intro v3 w3 h3))
      rw [end_eq hp] at h3
      go_ret
      exact ⟨_, rfl, h3⟩
end Go.Proofs.Qxb6627918a
