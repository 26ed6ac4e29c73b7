/-
  FROM THE READER's ROW OF INTEGERS to the shape of this seat's walks.
-/
import Derived.Test.Qxb6627983aSmall
import Derived.OpenShut
namespace Go.Proofs.Qxb6627983a
open Go.RowKit

/-- What the reader tells of a slice of integers. -/
def Told (k : IntKind) (w : World) (a : Option Addr) (len cap : Nat) (zs : List Int) : Prop :=
  (a = none ∧ len = 0 ∧ cap = 0 ∧ zs = []) ∨
  ∃ x, a = some x ∧ len ≤ cap ∧ cap ≤ maxLen ∧ zs.length = cap ∧ (∀ i, i < zs.length → w.cell? (x.add i) = some (.int k (zs.getD i 0))) ∧ ∀ n ∈ zs, (Lit.int k n).wf = true

theorem Told.sl {k : IntKind} {w : World} {a : Option Addr} {len cap : Nat} {zs : List Int} (h : Told k w a len cap zs) : IntSl k w a len (fun i => zs.getD i 0) := by
  rcases h with ⟨rfl, rfl, rfl, rfl⟩ | ⟨x, rfl, hl, hm, hz, hc, _⟩
  · exact ⟨Nat.zero_le _, fun i hi => by omega⟩
  · refine ⟨Nat.le_trans hl hm, fun i hi => ?_⟩
    obtain ⟨b, o, spot⟩ := x
    have hi' : i < zs.length := by omega
    have h0 := hc i hi'
    have h00 := hc 0 (by omega)
    have hspot : spot = none := by simpa [Addr.add] using World.cell?_spot h00
    subst hspot
    refine ⟨b, o, rfl, ?_⟩
    by_cases e : i = 0
    · subst e; simpa [Addr.add] using h0
    · simpa [Addr.add, e] using h0

theorem Told.top {w : World} {a : Option Addr} {len cap : Nat} {zs : List Int} (h : Told .i64 w a len cap zs) : ∀ i, i < len → zs.getD i 0 ≤ 9223372036854775807 := by
  intro i hi
  rcases h with ⟨rfl, rfl, rfl, rfl⟩ | ⟨x, rfl, hl, hm, hz, _, hw⟩
  · omega
  · have hi' : i < zs.length := by omega
    have hg : zs.getD i 0 = zs[i] := by simp [List.getD_eq_getElem?_getD, hi']
    rw [hg]
    exact (bounds_i64 (hw _ (List.getElem_mem hi'))).2
end Go.Proofs.Qxb6627983a
