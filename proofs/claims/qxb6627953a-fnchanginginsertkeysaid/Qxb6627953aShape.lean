/-
  WHAT THE WALKS OF SEAT b6627953a ARE TOLD OF MEMORY: slices of strings, of floors, of key entries; a pointer to quorums. Each is said by its cells; each stays true where nothing old has turned.
-/
import Derived.WalkKit
import Derived.Deep.Fields
namespace Go.Proofs.Qxb6627953a
open Go.RowKit

/-- A slice of strings: n elements, the strings S. -/
structure StrSl (w : World) (ao : Option Addr) (n c : Nat) (S : Nat → ByteArray) : Prop where
  le : n ≤ maxLen
  nil : ao = none → n = 0 ∧ c = 0
  cell : ∀ i, i < n → ∃ b o, ao = some ⟨b, o, none⟩ ∧ w.cell? ⟨b, o + i, none⟩ = some (.string (S i)) ∧ (S i).size ≤ maxLen

/-- A pointer to quorums. -/
def Quo (w : World) (p : Option Addr) : Prop := ∀ x, p = some x → ∃ b o r q, x = ⟨b, o, none⟩ ∧ w.cell? ⟨b, o, none⟩ = some (.int .i64 r) ∧ w.cell? ⟨b, o + 1, none⟩ = some (.int .i64 q)

/-- A slice of floors. -/
structure FlSl (w : World) (ao : Option Addr) (n c : Nat) : Prop where
  le : n ≤ maxLen
  nil : ao = none → n = 0 ∧ c = 0
  cell : ∀ i, i < n → ∃ b o x y h, ao = some ⟨b, o, none⟩ ∧ w.cell? ⟨b, o + i * 3, none⟩ = some (.int .u64 x) ∧ w.cell? ⟨b, o + i * 3 + 1, none⟩ = some (.int .i64 y) ∧ w.cell? ⟨b, o + i * 3 + 2, none⟩ = some (.bool h)

/-- A slice of key entries: names N, their From F, their floors (fa, fn, fc). -/
structure KeySl (w : World) (ao : Option Addr) (n c : Nat) (N : Nat → ByteArray) (F : Nat → Option Addr) (fa : Nat → Option Addr) (fn fc : Nat → Nat) : Prop where
  le : n ≤ maxLen
  nil : ao = none → n = 0 ∧ c = 0
  cell : ∀ i, i < n → ∃ b o r q, ao = some ⟨b, o, none⟩ ∧ w.cell? ⟨b, o + i * 5, none⟩ = some (.string (N i)) ∧ w.cell? ⟨b, o + i * 5 + 1, none⟩ = some (.int .i64 r) ∧ w.cell? ⟨b, o + i * 5 + 2, none⟩ = some (.int .i64 q) ∧
    w.cell? ⟨b, o + i * 5 + 3, none⟩ = some (.pointer (F i)) ∧ w.cell? ⟨b, o + i * 5 + 4, none⟩ = some (.slice (fa i) (fn i) (fc i))
  name : ∀ i, i < n → (N i).size ≤ maxLen
  from_ : ∀ i, i < n → Quo w (F i)
  floors : ∀ i, i < n → FlSl w (fa i) (fn i) (fc i)

theorem kept_cell {w w' : World} (h : Below w.heap.size w w') {a : Addr} {v : Value} (hc : w.cell? a = some v) : w'.cell? a = some v :=
  (h.cell (World.block_lt_of_cell? w a hc)).trans hc

theorem StrSl.keep {w w' : World} {ao : Option Addr} {n c : Nat} {S : Nat → ByteArray} (h : StrSl w ao n c S) (hb : Below w.heap.size w w') : StrSl w' ao n c S :=
  ⟨h.le, h.nil, fun i hi => let ⟨b, o, e, h1, h2⟩ := h.cell i hi; ⟨b, o, e, kept_cell hb h1, h2⟩⟩
theorem Quo.keep {w w' : World} {p : Option Addr} (h : Quo w p) (hb : Below w.heap.size w w') : Quo w' p := fun x hx =>
  let ⟨b, o, r, q, e, h1, h2⟩ := h x hx; ⟨b, o, r, q, e, kept_cell hb h1, kept_cell hb h2⟩
theorem FlSl.keep {w w' : World} {ao : Option Addr} {n c : Nat} (h : FlSl w ao n c) (hb : Below w.heap.size w w') : FlSl w' ao n c :=
  ⟨h.le, h.nil, fun i hi => let ⟨b, o, x, y, z, e, h1, h2, h3⟩ := h.cell i hi; ⟨b, o, x, y, z, e, kept_cell hb h1, kept_cell hb h2, kept_cell hb h3⟩⟩
theorem KeySl.keep {w w' : World} {ao : Option Addr} {n c : Nat} {N : Nat → ByteArray} {F fa : Nat → Option Addr} {fn fc : Nat → Nat} (h : KeySl w ao n c N F fa fn fc) (hb : Below w.heap.size w w') : KeySl w' ao n c N F fa fn fc :=
  ⟨h.le, h.nil, fun i hi => let ⟨b, o, r, q, e, h1, h2, h3, h4, h5⟩ := h.cell i hi; ⟨b, o, r, q, e, kept_cell hb h1, kept_cell hb h2, kept_cell hb h3, kept_cell hb h4, kept_cell hb h5⟩,
    h.name, fun i hi => (h.from_ i hi).keep hb, fun i hi => (h.floors i hi).keep hb⟩

/-- A configuration's value. -/
def cfgV (num ep : Int) (na : Option Addr) (nn nc : Nat) (rd wr : Int) (fr : Option Addr) (ta : Option Addr) (tn tc : Nat) (la : Option Addr) (ln lc : Nat) (ka : Option Addr) (kn kc : Nat) (hm : Bool) : Value :=
  .agg #[.int .u64 num, .int .u64 ep, .slice na nn nc, .int .i64 rd, .int .i64 wr, .pointer fr, .slice ta tn tc, .slice la ln lc, .slice ka kn kc, .bool hm]

end Go.Proofs.Qxb6627953a
