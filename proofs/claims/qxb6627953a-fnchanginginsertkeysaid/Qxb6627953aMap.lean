/-
  THE MAP OF KEYS for seat b6627953a: how an element reads; the map after k entries; zzKeys (15).
-/
import Derived.Test.Qxb6627953aKey
import Derived.Maps.RangeWalk
import Derived.Maps.OwnOps
import Derived.StringKeys
namespace Go.Proofs.Qxb6627953a
open Go.RowKit Go.Maps

/-- A key's value. -/
def keyV (r q : Int) (p : Option Addr) (a : Option Addr) (n c : Nat) : Value := .agg #[.int .i64 r, .int .i64 q, .pointer p, .slice a n c]

/-- HOW A KEY READS, for our purpose: whether it carries a From. -/
def keyR : Value → Option (DataW Unit × List MemPlace)
  | .agg cs => match cs.toList with
    | [.int .i64 _, .int .i64 _, .pointer p, .slice _ _ _] => some (.lit (.bool p.isSome), [])
    | _ => none
  | _ => none

theorem keyR_mk (r q : Int) (p a : Option Addr) (n c : Nat) : keyR (.agg #[.int .i64 r, .int .i64 q, .pointer p, .slice a n c]) = some (.lit (.bool p.isSome), []) := rfl

theorem keyR_inv {v : Value} {y : DataW Unit × List MemPlace} (h : keyR v = some y) : ∃ r q p a n c, v = .agg #[.int .i64 r, .int .i64 q, .pointer p, .slice a n c] ∧ y = (.lit (.bool p.isSome), []) := by
  unfold keyR at h
  split at h
  · rename_i cs
    split at h
    · rename_i r q p a n c e
      cases h
      exact ⟨r, q, p, a, n, c, by rw [← e], rfl⟩
    · cases h
  · cases h

def kl (s : ByteArray) : Lit := .string s.data.toList
def bd (b : Bool) : DataW Unit := .lit (.bool b)

/-- The map after k entries. -/
def DD (N : Nat → ByteArray) (F : Nat → Option Addr) : Nat → DataW Unit
  | 0 => .map []
  | k + 1 => (DD N F k).put (kl (N k)) (bd (F k).isSome)

theorem law : Keyed Try.prog 9 := string_keyed Try.underlying9
theorem key9 {s : ByteArray} (h : s.size ≤ maxLen) : keyOf Try.prog 9 (.string s) = some (kl s) := Go.WideMaps.keyOf_string_mk Try.underlying9 h

theorem own_below {w w' : World} {P : Program} {k : TypeId} {R : Value → Option (DataW Unit × List MemPlace)} {b n : Nat} {D : DataW Unit} (h : w.ownsMap P k R b n D) (hb : Below w.heap.size w w') : w'.ownsMap P k R b n D := by
  have hlt := h.lt
  obtain ⟨es, clock, h1, r⟩ := h
  exact ⟨es, clock, (hb.block b hlt).trans h1, r⟩

theorem Try.eq26 (w : World) (a : Option Addr) (n c n' c' : Nat) : (binOp .eql 26 (.slice a n c) (.slice none n' c')).run Try.prog w = .ok (.bool a.isNone) w := Lib.run_eql_slice_nil w _ _ a n c n' c' Try.underlying26

theorem keys_nil (w : World) : Calls Try.prog 15 #[.slice none 0 0] w fun e w' => e = .returned (.map none) ∧ w' = w := by
  have hs1 := Try.eq26
  go_enter Try.func15, Try.ntmps15
  go_wp2
  go_ret
  exact ⟨rfl, rfl⟩

theorem showS5 {W w' : World} {b o : Nat} {v0 v1 v2 v3 v4 : Value} (c0 : W.cell? ⟨b, o, none⟩ = some v0) (c1 : W.cell? ⟨b, o + 1, none⟩ = some v1) (c2 : W.cell? ⟨b, o + 2, none⟩ = some v2) (c3 : W.cell? ⟨b, o + 3, none⟩ = some v3) (c4 : W.cell? ⟨b, o + 4, none⟩ = some v4) (hb : Below W.heap.size W w') :
    w'.cell? ⟨b, o, none⟩ = some v0 ∧ w'.cell? ⟨b, o + 1, none⟩ = some v1 ∧ w'.cell? ⟨b, o + 2, none⟩ = some v2 ∧ w'.cell? ⟨b, o + 3, none⟩ = some v3 ∧ w'.cell? ⟨b, o + 4, none⟩ = some v4 ∧ Below W.heap.size W w' :=
  ⟨kept_cell hb c0, kept_cell hb c1, kept_cell hb c2, kept_cell hb c3, kept_cell hb c4, hb⟩

set_option maxHeartbeats 1000000 in
theorem keys_some (x : Addr) (n c : Nat) (N : Nat → ByteArray) (F fa : Nat → Option Addr) (fn fc : Nat → Nat) (w : World) (h : KeySl w (some x) n c N F fa fn fc) (hn : n ≤ 1048576) (hfn : ∀ i, i < n → fn i ≤ 1048576) :
    Calls Try.prog 15 #[.slice (some x) n c] w fun e w' => e = .returned (.map (some w.heap.size)) ∧ w'.ownsMap Try.prog 9 keyR w.heap.size n (DD N F n) ∧ Below w.heap.size w w' := by
  have hs1 := Try.eq26
  have hmm := @run_makeMap Try.prog
  have H : Hid (KeySl w (some x) n c N F fa fn fc) := h
  have Hfn : Hid (∀ i, i < n → fn i ≤ 1048576) := hfn
  clear h hfn
  go_enter Try.func15, Try.ntmps15
  go_wp2_with fail
  go_loopw [4] (fun i wr => ∃ k : Nat, k ≤ n ∧ i = .int .i64 k ∧ wr.ownsMap Try.prog 9 keyR w.heap.size k (DD N F k) ∧ Below w.heap.size w wr) (fun i _ => n - (intOf i).toNat)
  case atStart => exact ⟨0, Nat.zero_le _, rfl, World.ownsMap_made _ _ _ _, (Below.refl _ _).alloc (Nat.le_refl _) _⟩
  case round =>
    obtain ⟨k, hk, rfl, hown, hB⟩ := hrel
    by_cases hlt : k < n
    · obtain ⟨b, o, r, q, hx, c0, c1, c2, c3, c4⟩ := H.out.cell k hlt
      obtain rfl : x = ⟨b, o, none⟩ := by simpa using hx
      have hnm := H.out.name k hlt
      have Hq : Hid (Quo wr (F k)) := (H.out.from_ k hlt).keep hB
      have Hf : Hid (FlSl wr (fa k) (fn k) (fc k)) := (H.out.floors k hlt).keep hB
      have hfk := Hfn.out k hlt
      have hki : (0 : Int) ≤ (k : Int) := by omega
      have hkn : (k : Int) < (n : Int) := by omega
      have Hown : Hid (wr.ownsMap Try.prog 9 keyR w.heap.size k (DD N F k)) := hown
      clear hx hown
      obtain ⟨nm, hnm'⟩ : ∃ nm, nm = N k := ⟨_, rfl⟩
      obtain ⟨p, hp'⟩ : ∃ p, p = F k := ⟨_, rfl⟩
      obtain ⟨a, ha'⟩ : ∃ a, a = fa k := ⟨_, rfl⟩
      obtain ⟨an, han'⟩ : ∃ an, an = fn k := ⟨_, rfl⟩
      obtain ⟨ac, hac'⟩ : ∃ ac, ac = fc k := ⟨_, rfl⟩
      rw [← hnm'] at c0 hnm
      rw [← hp'] at c3 Hq
      rw [← ha', ← han', ← hac'] at c4 Hf
      rw [← han'] at hfk
      have HD : Hid ((DD N F k).put (kl nm) (bd p.isSome) = DD N F (k + 1)) := by rw [hnm', hp']; rfl
      clear hnm' hp' ha' han' hac'
      go_wp2_with fail
      go_region_held3 (fun w' => w'.cell? ⟨b, o + k * 5, none⟩ = some (.string nm) ∧ w'.cell? ⟨b, o + k * 5 + 1, none⟩ = some (.int .i64 r) ∧ w'.cell? ⟨b, o + k * 5 + 2, none⟩ = some (.int .i64 q) ∧ w'.cell? ⟨b, o + k * 5 + 3, none⟩ = some (.pointer p) ∧ w'.cell? ⟨b, o + k * 5 + 4, none⟩ = some (.slice a an ac) ∧ Below w.heap.size w w')
        ((refine showS5 c0 c1 c2 c3 c4 ?_; repeat (first | assumption | exact Below.refl _ _ | apply Below.drew)))
        (first
          | (go_at_call 11; refine (key_any _ _ _ _ _ _ _ ?_ ?_ hfk).mono ?_; (exact Hq.out.keep ((Below.refl _ _).drew)); (exact Hf.out.keep ((Below.refl _ _).drew)); rintro e w2 ⟨⟨p', a', c', rfl, hp'⟩, hb2⟩; (have hB2 := chainB hB.drew hb2 (Nat.le_refl _)); (obtain ⟨w3, hrun, hown3, hg3⟩ := (own_below Hown.out.drew hb2).update law Try.underlying33 (by unfold maxLen; omega) (key9 hnm) (keyR_mk r q p' a' an c')); (have hB3 := hB2.grown hg3 hB2.size (fun j hj => by cases hj; exact Nat.le_refl _)); rw [hp'] at hown3; (have Hown3 : Hid _ := hown3); clear hb2 hg3 hown3))
      go_wp2
      go_roundw
      case rel => exact ⟨k + 1, by omega, by go_num, by rw [← HD.out]; exact Hown3.out, hB3⟩
      case measure => simp [intOf]; omega
    · obtain rfl : k = n := by omega
      go_wp2
      go_ret
      exact ⟨rfl, hown, hB⟩

theorem keys_any (ao : Option Addr) (n c : Nat) (N : Nat → ByteArray) (F fa : Nat → Option Addr) (fn fc : Nat → Nat) (w : World) (h : KeySl w ao n c N F fa fn fc) (hn : n ≤ 1048576) (hfn : ∀ i, i < n → fn i ≤ 1048576) :
    Calls Try.prog 15 #[.slice ao n c] w fun e w' => (∃ km, e = .returned (.map km) ∧ km.isSome = ao.isSome ∧ ∀ b, km = some b → w.heap.size ≤ b ∧ w'.ownsMap Try.prog 9 keyR b n (DD N F n)) ∧ Below w.heap.size w w' := by
  cases ao with
  | none =>
    obtain ⟨rfl, rfl⟩ := h.nil rfl
    refine (keys_nil w).mono ?_
    rintro e w' ⟨rfl, hw⟩
    subst w'
    exact ⟨⟨_, rfl, rfl, fun b hb => by cases hb⟩, Below.refl _ _⟩
  | some x =>
    refine (keys_some x n c N F fa fn fc w h hn hfn).mono ?_
    rintro e w' ⟨rfl, ho, hw⟩
    exact ⟨⟨_, rfl, rfl, fun b hb => by cases hb; exact ⟨Nat.le_refl _, ho⟩⟩, hw⟩

end Go.Proofs.Qxb6627953a
