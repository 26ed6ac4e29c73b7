/-
  FROM THE READER's WORD TO THE WALKS' SHAPES, for seat b6627953a: what a readable configuration, key, slice or pointer is in memory.
-/
import Derived.Test.Qxb6627953aRows
import Derived.Test.Qxb6627953aShape
import Derived.ProofKit
import Derived.Deep.Fields
namespace Go.Proofs.Qxb6627953a
open Go.ChangeShapes Go.WideShapes Go.Deep

theorem Try.cells9 : Try.prog.cellsOf 9 = 1 := by kernel_rfl
theorem Try.cells22 : Try.prog.cellsOf 22 = 1 := by kernel_rfl
theorem Try.cells3 : Try.prog.cellsOf 3 = 1 := by kernel_rfl
theorem Try.cells4 : Try.prog.cellsOf 4 = 1 := by kernel_rfl
theorem Try.cells23 : Try.prog.cellsOf 23 = 1 := by kernel_rfl
theorem Try.cells24 : Try.prog.cellsOf 24 = 1 := by kernel_rfl
theorem Try.cells25 : Try.prog.cellsOf 25 = 1 := by kernel_rfl
theorem Try.cells26 : Try.prog.cellsOf 26 = 1 := by kernel_rfl
theorem Try.cells28 : Try.prog.cellsOf 28 = 10 := by kernel_rfl
theorem Try.cells39 : Try.prog.cellsOf 39 = 4 := by kernel_rfl
theorem Try.cells41 : Try.prog.cellsOf 41 = 5 := by kernel_rfl
theorem Try.cells53 : Try.prog.cellsOf 53 = 2 := by kernel_rfl
theorem Try.cells57 : Try.prog.cellsOf 57 = 3 := by kernel_rfl

section
variable {H : Type} {enc : TypeId × Value → H} {w : World} {base : Nat} {spare : Nat → Bool} {held : Bool}

theorem field_of {P : Program} {t : TypeId} {fs : Array Field} {fuel : Nat} {cs : List Value} {x : DataW H × List MemPlace} (hs : P.underlying t = some (.struct fs)) (h : DataW.trod enc P w base spare held fuel t cs = some x) :
    ∃ n, cs.length = P.cellsOf t ∧ ∀ (i : Nat) (f : Field), fs[i]? = some f → ∃ y, DataW.trod enc P w base spare held n f.type ((cs.drop f.offset).take (P.cellsOf f.type)) = some y := by
  obtain ⟨xs, n, _, _, hl, hx, hf⟩ := DataW.trod_struct hs h
  refine ⟨n, hl, fun i f hi => ?_⟩
  have hlt : i < fs.size := (Array.getElem?_eq_some_iff.1 hi).1
  have := hf i f hi
  rw [List.getElem?_eq_getElem (by omega)] at this
  exact ⟨_, this⟩

theorem open_strs {fuel : Nat} {cs : List Value} {x : DataW H × List MemPlace} (h : DataW.trod enc Try.prog w base spare held fuel 23 cs = some x) : ∃ ao n c S, cs = [.slice ao n c] ∧ StrSl w ao n c S := by
  rcases open_slice1 Try.underlying23 Try.cells9 h with ⟨rfl, _⟩ | ⟨a, len, cap, m, n, V, D, Pl, rfl, _, hl, hm, hmm, _, hv⟩
  · exact ⟨none, 0, 0, fun _ => ByteArray.empty, rfl, Nat.zero_le _, fun _ => ⟨rfl, rfl⟩, fun i hi => absurd hi (Nat.not_lt_zero _)⟩
  · have hml : len ≤ m := by rw [hmm]; split <;> omega
    have hall : ∀ i, i < len → ∃ s : ByteArray, V i = .string s ∧ s.size ≤ maxLen := fun i hi => by
      obtain ⟨_, h2⟩ := hv i (by omega)
      obtain ⟨s, e, _, hs⟩ := DataW.trod_string Try.underlying9 h2
      exact ⟨s, by simpa using e, hs⟩
    refine ⟨some a, len, cap, fun i => match V i with | .string s => s | _ => ByteArray.empty, rfl, Nat.le_trans hl hm, (fun e => by cases e), fun i hi => ?_⟩
    obtain ⟨h1, _⟩ := hv i (by omega)
    obtain ⟨s, e, hs⟩ := hall i hi
    obtain ⟨b, o, spot⟩ := a
    have hspot : spot = none := by
      have := World.cell?_spot (hv 0 (by omega)).1
      simpa [Addr.add] using this
    subst hspot
    rw [Addr.add_lit, e] at h1
    refine ⟨b, o, rfl, ?_, ?_⟩
    · rw [e]; exact h1
    · rw [e]; exact hs

theorem open_quo {fuel : Nat} {cs : List Value} {x : DataW H × List MemPlace} (h : DataW.trod enc Try.prog w base spare held fuel 24 cs = some x) : ∃ p, cs = [.pointer p] ∧ Quo w p := by
  rcases DataW.trod_pointer Try.underlying24 h with ⟨rfl, _⟩ | ⟨⟨b, o, spot⟩, cs', y, n, _, rfl, _, hc, hy⟩
  · exact ⟨none, rfl, fun x hx => by cases hx⟩
  · obtain ⟨_, hlen, hcell⟩ := World.cells?_some hc
    rw [Try.cells53] at hlen hcell
    obtain ⟨m, _, hf⟩ := field_of Try.underlying53 hy
    obtain ⟨y0, t0⟩ : ∃ y, DataW.trod enc Try.prog w base spare held m 3 ((cs'.drop 0).take (Try.prog.cellsOf 3)) = some y := hf 0 _ rfl
    obtain ⟨y1, t1⟩ : ∃ y, DataW.trod enc Try.prog w base spare held m 3 ((cs'.drop 1).take (Try.prog.cellsOf 3)) = some y := hf 1 _ rfl
    rw [Try.cells3] at t0 t1
    match cs', hlen with
    | [v0, v1], _ =>
      obtain ⟨r, e0, _⟩ := DataW.trod_int Try.underlying3 t0
      obtain ⟨q, e1, _⟩ := DataW.trod_int Try.underlying3 t1
      simp at e0 e1
      subst e0; subst e1
      have h0 := hcell 0 (by omega)
      have h1 := hcell 1 (by omega)
      have hspot : spot = none := by
        have := World.cell?_spot (h0.trans rfl)
        simpa [Addr.add] using this
      subst hspot
      rw [Addr.add_lit] at h0 h1
      refine ⟨some ⟨b, o, none⟩, rfl, fun x hx => ?_⟩
      cases hx
      exact ⟨b, o, r, q, rfl, by simpa using h0, by simpa using h1⟩

theorem open_flo {fuel : Nat} {cs : List Value} {x : DataW H × List MemPlace} (h : DataW.trod enc Try.prog w base spare held fuel 25 cs = some x) : ∃ ao n c, cs = [.slice ao n c] ∧ FlSl w ao n c := by
  rcases open_slice Try.underlying25 h with ⟨rfl, _⟩ | ⟨⟨b, o, spot⟩, len, cap, m, n, D, Pl, rfl, _, hl, hm, hmm, _, hv⟩
  · exact ⟨none, 0, 0, rfl, Nat.zero_le _, fun _ => ⟨rfl, rfl⟩, fun i hi => absurd hi (Nat.not_lt_zero _)⟩
  · have hml : len ≤ m := by rw [hmm]; split <;> omega
    refine ⟨_, len, cap, rfl, Nat.le_trans hl hm, (fun e => by cases e), fun i hi => ?_⟩
    obtain ⟨cs', hc, hy⟩ := hv i (by omega)
    rw [Try.cells57] at hc
    obtain ⟨_, hlen, hcell⟩ := World.cells?_some hc
    obtain ⟨m', _, hf⟩ := field_of Try.underlying57 hy
    obtain ⟨y0, t0⟩ : ∃ y, DataW.trod enc Try.prog w base spare held m' 22 ((cs'.drop 0).take (Try.prog.cellsOf 22)) = some y := hf 0 _ rfl
    obtain ⟨y1, t1⟩ : ∃ y, DataW.trod enc Try.prog w base spare held m' 3 ((cs'.drop 1).take (Try.prog.cellsOf 3)) = some y := hf 1 _ rfl
    obtain ⟨y2, t2⟩ : ∃ y, DataW.trod enc Try.prog w base spare held m' 4 ((cs'.drop 2).take (Try.prog.cellsOf 4)) = some y := hf 2 _ rfl
    rw [Try.cells22] at t0
    rw [Try.cells3] at t1
    rw [Try.cells4] at t2
    match cs', hlen with
    | [v0, v1, v2], _ =>
      obtain ⟨r, e0, _⟩ := DataW.trod_int Try.underlying22 t0
      obtain ⟨q, e1, _⟩ := DataW.trod_int Try.underlying3 t1
      obtain ⟨z, e2, _⟩ := DataW.trod_bool Try.underlying4 t2
      simp at e0 e1 e2
      subst e0; subst e1; subst e2
      have h0 := hcell 0 (by omega)
      have h1 := hcell 1 (by omega)
      have h2 := hcell 2 (by omega)
      have hspot : spot = none := by
        obtain ⟨cs0, hc0, _⟩ := hv 0 (by omega)
        rw [Try.cells57] at hc0
        obtain ⟨_, hl0, hcell0⟩ := World.cells?_some hc0
        have h00 := hcell0 0 (by omega)
        rw [List.getElem?_eq_getElem (by omega)] at h00
        have := World.cell?_spot h00
        simpa [Addr.add] using this
      subst hspot
      rw [Addr.add_lit, Addr.add_lit] at h0 h1 h2
      exact ⟨b, o, r, q, z, rfl, by simpa using h0, by simpa using h1, by simpa using h2⟩


/-- A key's four cells. -/
theorem open_key {fuel : Nat} {cs : List Value} {x : DataW H × List MemPlace} (h : DataW.trod enc Try.prog w base spare held fuel 39 cs = some x) :
    ∃ r q p fa fn fc, cs = [.int .i64 r, .int .i64 q, .pointer p, .slice fa fn fc] ∧ Quo w p ∧ FlSl w fa fn fc := by
  obtain ⟨m, hlen, hf⟩ := field_of Try.underlying39 h
  rw [Try.cells39] at hlen
  obtain ⟨y0, t0⟩ : ∃ y, DataW.trod enc Try.prog w base spare held m 3 ((cs.drop 0).take (Try.prog.cellsOf 3)) = some y := hf 0 _ rfl
  obtain ⟨y1, t1⟩ : ∃ y, DataW.trod enc Try.prog w base spare held m 3 ((cs.drop 1).take (Try.prog.cellsOf 3)) = some y := hf 1 _ rfl
  obtain ⟨y2, t2⟩ : ∃ y, DataW.trod enc Try.prog w base spare held m 24 ((cs.drop 2).take (Try.prog.cellsOf 24)) = some y := hf 2 _ rfl
  obtain ⟨y3, t3⟩ : ∃ y, DataW.trod enc Try.prog w base spare held m 25 ((cs.drop 3).take (Try.prog.cellsOf 25)) = some y := hf 3 _ rfl
  rw [Try.cells3] at t0 t1
  rw [Try.cells24] at t2
  rw [Try.cells25] at t3
  match cs, hlen with
  | [v0, v1, v2, v3], _ =>
    obtain ⟨r, e0, _⟩ := DataW.trod_int Try.underlying3 t0
    obtain ⟨q, e1, _⟩ := DataW.trod_int Try.underlying3 t1
    obtain ⟨p, e2, hq⟩ := open_quo t2
    obtain ⟨fa, fn, fc, e3, hfl⟩ := open_flo t3
    simp at e0 e1 e2 e3
    subst e0; subst e1; subst e2; subst e3
    exact ⟨r, q, p, fa, fn, fc, rfl, hq, hfl⟩

/-- What is told of one entry. -/
def EntryAt (w : World) (a : Addr) (nm : ByteArray) (p fa : Option Addr) (fn fc : Nat) : Prop :=
  ∃ r q, w.cell? a = some (.string nm) ∧ w.cell? (a.add 1) = some (.int .i64 r) ∧ w.cell? (a.add 2) = some (.int .i64 q) ∧ w.cell? (a.add 3) = some (.pointer p) ∧ w.cell? (a.add 4) = some (.slice fa fn fc) ∧ nm.size ≤ maxLen ∧ Quo w p ∧ FlSl w fa fn fc

theorem open_entry {fuel : Nat} {a : Addr} {cs : List Value} {x : DataW H × List MemPlace} (hc : w.cells? base a 5 = some cs) (h : DataW.trod enc Try.prog w base spare held fuel 41 cs = some x) :
    ∃ nm p fa fn fc, EntryAt w a nm p fa fn fc := by
  obtain ⟨_, hlen, hcell⟩ := World.cells?_some hc
  obtain ⟨m, _, hf⟩ := field_of Try.underlying41 h
  obtain ⟨y0, t0⟩ : ∃ y, DataW.trod enc Try.prog w base spare held m 9 ((cs.drop 0).take (Try.prog.cellsOf 9)) = some y := hf 0 _ rfl
  obtain ⟨y1, t1⟩ : ∃ y, DataW.trod enc Try.prog w base spare held m 39 ((cs.drop 1).take (Try.prog.cellsOf 39)) = some y := hf 1 _ rfl
  rw [Try.cells9] at t0
  rw [Try.cells39] at t1
  match cs, hlen with
  | [v0, v1, v2, v3, v4], _ =>
    obtain ⟨s, e0, _, hs⟩ := DataW.trod_string Try.underlying9 t0
    obtain ⟨r, q, p, fa, fn, fc, e1, hq, hfl⟩ := open_key t1
    simp at e0 e1
    obtain ⟨e1, e2, e3, e4⟩ := e1
    subst e0; subst e1; subst e2; subst e3; subst e4
    exact ⟨s, p, fa, fn, fc, r, q, by simpa [Addr.add] using hcell 0 (by omega), by simpa using hcell 1 (by omega), by simpa using hcell 2 (by omega), by simpa using hcell 3 (by omega), by simpa using hcell 4 (by omega), hs, hq, hfl⟩

theorem open_keys {fuel : Nat} {cs : List Value} {x : DataW H × List MemPlace} (h : DataW.trod enc Try.prog w base spare held fuel 26 cs = some x) : ∃ ao n c N F fa fn fc, cs = [.slice ao n c] ∧ KeySl w ao n c N F fa fn fc := by
  rcases open_slice Try.underlying26 h with ⟨rfl, _⟩ | ⟨a, len, cap, m, n, D, Pl, rfl, _, hl, hm, hmm, _, hv⟩
  · exact ⟨none, 0, 0, fun _ => ByteArray.empty, fun _ => none, fun _ => none, fun _ => 0, fun _ => 0, rfl, Nat.zero_le _, fun _ => ⟨rfl, rfl⟩, fun i hi => absurd hi (Nat.not_lt_zero _), fun i hi => absurd hi (Nat.not_lt_zero _), fun i hi => absurd hi (Nat.not_lt_zero _), fun i hi => absurd hi (Nat.not_lt_zero _)⟩
  · have hml : len ≤ m := by rw [hmm]; split <;> omega
    have hall : ∀ i, i < len → ∃ e : ByteArray × Option Addr × Option Addr × Nat × Nat, EntryAt w (a.add (i * 5)) e.1 e.2.1 e.2.2.1 e.2.2.2.1 e.2.2.2.2 := fun i hi => by
      obtain ⟨cs', hc, hy⟩ := hv i (by omega)
      rw [Try.cells41] at hc
      obtain ⟨nm, p, fa, fn, fc, he⟩ := open_entry hc hy
      exact ⟨(nm, p, fa, fn, fc), he⟩
    obtain ⟨E, hE⟩ : ∃ E : Nat → ByteArray × Option Addr × Option Addr × Nat × Nat, ∀ i, i < len → EntryAt w (a.add (i * 5)) (E i).1 (E i).2.1 (E i).2.2.1 (E i).2.2.2.1 (E i).2.2.2.2 := by
      refine ⟨fun i => if hi : i < len then Classical.choose (hall i hi) else (ByteArray.empty, none, none, 0, 0), fun i hi => ?_⟩
      simp only [dif_pos hi]
      exact Classical.choose_spec (hall i hi)
    refine ⟨some a, len, cap, fun i => (E i).1, fun i => (E i).2.1, fun i => (E i).2.2.1, fun i => (E i).2.2.2.1, fun i => (E i).2.2.2.2, rfl, Nat.le_trans hl hm, (fun e => by cases e), fun i hi => ?_, fun i hi => ?_, fun i hi => ?_, fun i hi => ?_⟩
    · obtain ⟨r, q, h0, h1, h2, h3, h4, _⟩ := hE i hi
      obtain ⟨b, o, spot⟩ := a
      have hspot : spot = none := by
        obtain ⟨_, _, h00, _⟩ := hE 0 (by omega)
        have := World.cell?_spot h00
        simpa [Addr.add] using this
      subst hspot
      simp only [Addr.add_lit] at h0 h1 h2 h3 h4
      exact ⟨b, o, r, q, rfl, h0, h1, h2, h3, h4⟩
    · obtain ⟨r, q, _, _, _, _, _, h, _⟩ := hE i hi
      exact h
    · obtain ⟨r, q, _, _, _, _, _, _, h, _⟩ := hE i hi
      exact h
    · obtain ⟨r, q, _, _, _, _, _, _, _, h⟩ := hE i hi
      exact h

/-- A configuration by value. -/
theorem open_cfg {r : Reach} {b0 : Nat} {v : Value} {d : DataW H} {p : List MemPlace} (hv : Value.okWide Try.prog w r b0 28 v) (h : DataW.Trod enc Try.prog w base spare held 28 v d p) :
    ∃ num ep na nn nc rd wr fr ta tn tc la ln lc ka kn kc hm SN ST N F fa fn fc, v = .agg #[.int .u64 num, .int .u64 ep, .slice na nn nc, .int .i64 rd, .int .i64 wr, .pointer fr, .slice ta tn tc, .slice la ln lc, .slice ka kn kc, .bool hm] ∧
      StrSl w na nn nc SN ∧ Quo w fr ∧ StrSl w ta tn tc ST ∧ FlSl w la ln lc ∧ KeySl w ka kn kc N F fa fn fc := by
  obtain ⟨cs, rfl, hsz⟩ := okWide_struct Try.underlying28 hv
  obtain ⟨fuel, hf0⟩ := h
  simp only [Value.cells] at hf0
  obtain ⟨m, hlen, hf⟩ := field_of Try.underlying28 hf0
  rw [Try.cells28] at hlen
  obtain ⟨y0, t0⟩ : ∃ y, DataW.trod enc Try.prog w base spare held m 22 ((cs.toList.drop 0).take (Try.prog.cellsOf 22)) = some y := hf 0 _ rfl
  obtain ⟨y1, t1⟩ : ∃ y, DataW.trod enc Try.prog w base spare held m 22 ((cs.toList.drop 1).take (Try.prog.cellsOf 22)) = some y := hf 1 _ rfl
  obtain ⟨y2, t2⟩ : ∃ y, DataW.trod enc Try.prog w base spare held m 23 ((cs.toList.drop 2).take (Try.prog.cellsOf 23)) = some y := hf 2 _ rfl
  obtain ⟨y3, t3⟩ : ∃ y, DataW.trod enc Try.prog w base spare held m 3 ((cs.toList.drop 3).take (Try.prog.cellsOf 3)) = some y := hf 3 _ rfl
  obtain ⟨y4, t4⟩ : ∃ y, DataW.trod enc Try.prog w base spare held m 3 ((cs.toList.drop 4).take (Try.prog.cellsOf 3)) = some y := hf 4 _ rfl
  obtain ⟨y5, t5⟩ : ∃ y, DataW.trod enc Try.prog w base spare held m 24 ((cs.toList.drop 5).take (Try.prog.cellsOf 24)) = some y := hf 5 _ rfl
  obtain ⟨y6, t6⟩ : ∃ y, DataW.trod enc Try.prog w base spare held m 23 ((cs.toList.drop 6).take (Try.prog.cellsOf 23)) = some y := hf 6 _ rfl
  obtain ⟨y7, t7⟩ : ∃ y, DataW.trod enc Try.prog w base spare held m 25 ((cs.toList.drop 7).take (Try.prog.cellsOf 25)) = some y := hf 7 _ rfl
  obtain ⟨y8, t8⟩ : ∃ y, DataW.trod enc Try.prog w base spare held m 26 ((cs.toList.drop 8).take (Try.prog.cellsOf 26)) = some y := hf 8 _ rfl
  obtain ⟨y9, t9⟩ : ∃ y, DataW.trod enc Try.prog w base spare held m 4 ((cs.toList.drop 9).take (Try.prog.cellsOf 4)) = some y := hf 9 _ rfl
  rw [Try.cells22] at t0
  rw [Try.cells22] at t1
  rw [Try.cells23] at t2
  rw [Try.cells3] at t3
  rw [Try.cells3] at t4
  rw [Try.cells24] at t5
  rw [Try.cells23] at t6
  rw [Try.cells25] at t7
  rw [Try.cells26] at t8
  rw [Try.cells4] at t9
  obtain ⟨l, rfl⟩ : ∃ l : List Value, cs = l.toArray := ⟨cs.toList, by simp⟩
  simp only at hlen t0 t1 t2 t3 t4 t5 t6 t7 t8 t9
  match l, hlen with
  | [v0, v1, v2, v3, v4, v5, v6, v7, v8, v9], _ =>
    obtain ⟨num, e0, _⟩ := DataW.trod_int Try.underlying22 t0
    obtain ⟨ep, e1, _⟩ := DataW.trod_int Try.underlying22 t1
    obtain ⟨na, nn, nc, SN, e2, hN⟩ := open_strs t2
    obtain ⟨rd, e3, _⟩ := DataW.trod_int Try.underlying3 t3
    obtain ⟨wr, e4, _⟩ := DataW.trod_int Try.underlying3 t4
    obtain ⟨fr, e5, hq⟩ := open_quo t5
    obtain ⟨ta, tn, tc, ST, e6, hT⟩ := open_strs t6
    obtain ⟨la, ln, lc, e7, hF⟩ := open_flo t7
    obtain ⟨ka, kn, kc, N, F, fa, fn, fc, e8, hK⟩ := open_keys t8
    obtain ⟨hm, e9, _⟩ := DataW.trod_bool Try.underlying4 t9
    simp at e0 e1 e2 e3 e4 e5 e6 e7 e8 e9
    subst e0; subst e1; subst e2; subst e3; subst e4; subst e5; subst e6; subst e7; subst e8; subst e9
    exact ⟨num, ep, na, nn, nc, rd, wr, fr, ta, tn, tc, la, ln, lc, ka, kn, kc, hm, SN, ST, N, F, fa, fn, fc, rfl, hN, hq, hT, hF, hK⟩

/-- A key by value. -/
theorem open_kv {r : Reach} {b0 : Nat} {v : Value} {d : DataW H} {p : List MemPlace} (hv : Value.okWide Try.prog w r b0 39 v) (h : DataW.Trod enc Try.prog w base spare held 39 v d p) :
    ∃ kr kw kf fa fn fc, v = .agg #[.int .i64 kr, .int .i64 kw, .pointer kf, .slice fa fn fc] ∧ Quo w kf ∧ FlSl w fa fn fc := by
  obtain ⟨cs, rfl, hsz⟩ := okWide_struct Try.underlying39 hv
  obtain ⟨fuel, hf0⟩ := h
  simp only [Value.cells] at hf0
  obtain ⟨kr, kw, kf, fa, fn, fc, e, hq, hfl⟩ := open_key hf0
  refine ⟨kr, kw, kf, fa, fn, fc, ?_, hq, hfl⟩
  obtain ⟨l, rfl⟩ : ∃ l : List Value, cs = l.toArray := ⟨cs.toList, by simp⟩
  simp only at e
  rw [e]

end
end Go.Proofs.Qxb6627953a
