/-
  PLAIN MATHEMATICS for seat b6627918a: bytes as numbers, the raw-string escape, how it splits. No Go program in sight.
-/
import Derived.WalkKit
import Derived.Lib.AppendStr
import Derived.Maps.AppendAt
namespace Go.Proofs.Qxb6627918a

/-- A string's bytes, as numbers. -/
def S (s : ByteArray) : List Int := s.data.toList.map fun b => (b.toNat : Int)

theorem S_length (s : ByteArray) : (S s).length = s.size := by
  rw [S, List.length_map, Array.length_toList]; rfl

theorem strCells_S (s : ByteArray) : Lib.strCells s = (S s).map (Value.int .u8) := by
  simp [Lib.strCells, S]

theorem S_get (s : ByteArray) (k : Nat) (h : k < s.size) : (S s)[k]? = some ((s[k]).toNat : Int) := by
  have h1 : s.data.toList[k]? = some s[k] := by
    rw [List.getElem?_eq_getElem (by simpa using h)]; rfl
  simp [S, h1]

theorem S_extract (s : ByteArray) (f k : Nat) : S (s.extract f k) = ((S s).take k).drop f := by
  unfold S
  rw [ByteArray.data_extract, Array.toList_extract, List.extract_eq_take_drop, ← List.map_take, ← List.map_drop, List.drop_take]

theorem S_append (a b : ByteArray) : S (a ++ b) = S a ++ S b := by
  simp [S]

def special (c : Int) : Bool := c == 34 || c == 92

/-- The body of the raw string: every quote and backslash behind a backslash. -/
def esc : List Int → List Int
  | [] => []
  | c :: r => if special c then 92 :: c :: esc r else c :: esc r

theorem esc_append (a b : List Int) : esc (a ++ b) = esc a ++ esc b := by
  induction a with
  | nil => rfl
  | cons c r ih =>
    simp only [List.cons_append, esc, ih]
    split <;> simp

theorem esc_le (l : List Int) : l.length ≤ (esc l).length ∧ (esc l).length ≤ 2 * l.length := by
  induction l with
  | nil => simp [esc]
  | cons c r ih =>
    simp only [esc]
    split <;> simp <;> omega

/-- No special byte in it. -/
def plain (l : List Int) : Prop := ∀ c ∈ l, special c = false

theorem esc_plain {l : List Int} (h : plain l) : esc l = l := by
  induction l with
  | nil => rfl
  | cons c r ih =>
    have h1 : special c = false := h c (by simp)
    simp only [esc, h1]
    rw [ih (fun d hd => h d (by simp [hd]))]
    simp

def specials (l : List Int) : Nat := (l.filter special).length

theorem esc_length (l : List Int) : (esc l).length = l.length + specials l := by
  induction l with
  | nil => rfl
  | cons c r ih =>
    unfold specials at *
    by_cases h : special c = true
    · simp [esc, h, ih]; omega
    · simp [esc, h, ih]; omega

theorem take_snoc (s : ByteArray) (k : Nat) (h : k < s.size) : (S s).take (k + 1) = (S s).take k ++ [((s[k]).toNat : Int)] := by
  rw [List.take_add_one, S_get s k h]; rfl

theorem special_of {c : Int} (h : c = 34 ∨ c = 92) : special c = true := by
  rcases h with rfl | rfl <;> rfl
theorem not_special_of {c : Int} (h1 : c ≠ 34) (h2 : c ≠ 92) : special c = false := by
  simp [special, h1, h2]

/-- A round that meets a special byte. -/
theorem esc_hit (s : ByteArray) (f k : Nat) (hf : f ≤ k) (h : k < s.size) (hp : plain (((S s).take k).drop f)) (hs : special ((s[k]).toNat : Int) = true) :
    esc ((S s).take (k + 1)) = esc ((S s).take f) ++ (((S s).take k).drop f ++ [92, ((s[k]).toNat : Int)]) := by
  have e1 : (S s).take k = (S s).take f ++ ((S s).take k).drop f := by
    conv => lhs; rw [← List.take_append_drop f ((S s).take k), List.take_take, Nat.min_eq_left hf]
  rw [take_snoc s k h, esc_append, e1, esc_append, esc_plain hp, ← e1]
  simp [esc, hs]

theorem plain_snoc (s : ByteArray) (f k : Nat) (hf : f ≤ k) (h : k < s.size) (hp : plain (((S s).take k).drop f)) (hs : special ((s[k]).toNat : Int) = false) : plain (((S s).take (k + 1)).drop f) := by
  rw [take_snoc s k h, List.drop_append_of_le_length (by rw [List.length_take, S_length]; omega)]
  intro c hc
  rcases List.mem_append.1 hc with hc | hc
  · exact hp c hc
  · simp at hc; rw [hc]; exact hs

theorem plain_nil (s : ByteArray) (k : Nat) : plain (((S s).take k).drop k) := by
  intro c hc
  rw [List.drop_of_length_le (by rw [List.length_take]; omega)] at hc
  cases hc

/-- At the end. -/
theorem esc_end (s : ByteArray) (f : Nat) (hp : plain (((S s).take s.size).drop f)) : esc (S s) = esc ((S s).take f) ++ ((S s).take s.size).drop f := by
  have e0 : (S s).take s.size = S s := List.take_of_length_le (by rw [S_length]; omega)
  rw [e0] at hp ⊢
  conv => lhs; rw [← List.take_append_drop f (S s), esc_append, esc_plain hp]

/-- THE STATES OF AN APPENDING CALL: v0 came in, in world w; v, in world wr, is what it has become: it owns xs; besides v0's own row nothing old has turned; v lies in v0's row or in a new block. -/
structure Onto (w : World) (base : Nat) (v0 : Value) (wr : World) (v : Value) (xs : List Int) : Prop where
  own : wr.ownsRow base 5 1 v xs.length (xs.map (Value.int .u8))
  grown : w.grownBy wr v0.ownBlock
  at_ : v.ownBlock = v0.ownBlock ∨ ∃ g, v.ownBlock = some g ∧ w.heap.size ≤ g

theorem Onto.start {w : World} {base : Nat} {v : Value} {xs : List Int} (h : w.ownsRow base 5 1 v xs.length (xs.map (Value.int .u8))) : Onto w base v w v xs :=
  ⟨h, World.grownBy.refl _ _, .inl rfl⟩

theorem Onto.step {w wr w1 : World} {base : Nat} {v0 v v1 : Value} {xs news : List Int} (h : Onto w base v0 wr v xs) (h1 : w1.ownsRow base 5 1 v1 (xs ++ news).length ((xs ++ news).map (Value.int .u8)))
    (hg : wr.grownBy w1 v.ownBlock) (hat : v1.ownBlock = v.ownBlock ∨ ∃ g, v1.ownBlock = some g ∧ wr.heap.size ≤ g) : Onto w base v0 w1 v1 (xs ++ news) := by
  refine ⟨h1, ⟨hg.os.trans h.grown.os, hg.tape.trans h.grown.tape, hg.output.trans h.grown.output, Nat.le_trans h.grown.size hg.size, fun k hk hne => ?_⟩, ?_⟩
  · refine (hg.block k (Nat.lt_of_lt_of_le hk h.grown.size) ?_).trans (h.grown.block k hk hne)
    rcases h.at_ with e | ⟨g, e, hgg⟩
    · rw [e]; exact hne
    · rw [e]; intro e1; cases e1; omega
  · rcases hat with e | ⟨g, e, hgg⟩
    · rw [e]; exact h.at_
    · exact .inr ⟨g, e, Nat.le_trans h.grown.size hgg⟩

theorem Onto.shape {w wr : World} {base : Nat} {v0 v : Value} {xs : List Int} (h : Onto w base v0 wr v xs) : ∃ ao c, v = .slice ao xs.length c := by
  rcases h.own.2 with ⟨e, h0⟩ | ⟨g, cap, cur, e, _⟩
  · exact ⟨none, 0, by rw [e, h0]⟩
  · exact ⟨_, _, e⟩

/-- 'append(v, s...)' WITH ITS PLACE. -/
theorem string_place {P : Program} (w : World) (base : Nat) (t u ty e : TypeId) (i : TypeInfo) (ht : P.underlying t = some (.slice e)) (hu : P.underlying u = some .string) (hi : P.info? e = some i) (hz : i.zero = some (.int .u8 0))
    (hsize : i.size = 1) (hby : i.bytes = 1) (v : Value) (n : Nat) (xs : List Value) (hown : w.ownsRow base e 1 v n xs) (s : ByteArray) (h63 : n + s.size ≤ maxLen) (hbytes : n + s.size ≤ 140737488355328) (hbase : base ≤ w.heap.size) :
    ∃ v' w', (Builtin.append_ #[t, u] ty #[v, .string s]).run P w = .ok v' w' ∧ w'.ownsRow base e 1 v' (n + s.size) (xs ++ Lib.strCells s) ∧ w.grownBy w' v.ownBlock ∧ (v'.ownBlock = v.ownBlock ∨ ∃ g, v'.ownBlock = some g ∧ w.heap.size ≤ g) := by
  have hsmall : n + s.size ≤ 9223372036854775807 := by simp only [maxLen] at h63; omega
  obtain ⟨v', w', hr, h2, h3, h4⟩ := Lib.run_append_own_string (P := P) w base t u ty e i ht hu hi hz hsize hby v n xs hown s h63 hbytes hbase
  refine ⟨v', w', hr, h2, h3, ?_⟩
  rcases hown.2 with ⟨rfl, rfl⟩ | ⟨g, cap, cur, rfl, hbg, hg, hnc, hcm, hcs, htake⟩
  · by_cases hm : s.size = 0
    · rw [h4.2 ⟨rfl, hm⟩]; exact .inl rfl
    · have hr' := run_append_nil_string (P := P) w t u ty e i (.int .u8 0) ht hu hi hz s (by omega) (by omega) (by rw [hby]; omega)
      rw [hr] at hr'
      cases hr'
      exact .inr ⟨_, rfl, Nat.le_refl _⟩
  · by_cases hroom : n + s.size ≤ cap
    · have hr' := Lib.run_append_room_string (P := P) w t u ty e i ht hu hi hsize g n cap cur hg s hroom (by omega)
      rw [hr] at hr'
      cases hr'
      exact .inl rfl
    · have hr' := Lib.run_append_grow_string (P := P) w t u ty e i (.int .u8 0) ht hu hi hz ⟨g, 0, none⟩ n cap xs (by rw [hsize]; exact hown.1) (hown.cells (g := g) rfl) s (by omega) (by omega) (by rw [hby]; exact growslice_fits (by omega) (by omega))
      rw [hr] at hr'
      cases hr'
      exact .inr ⟨_, rfl, Nat.le_refl _⟩

/-- THE OPERATION 'append(v, s...)', for the walk. -/
theorem wp_string {P : Program} (w : World) {ops : Array Oper} {rest : List Oper} {o : Oper} {a : Act} {Q : Exit → Act → World → Prop} (hgd : o.guard = none) (sl x : Operand) (t u : TypeId)
    (ho : o.op = .call { callee := .builtin .append, args := #[sl, x], argTypes := #[t, u] })
    {w0 : World} {base : Nat} {v0 v : Value} {xs : List Int} (i : TypeInfo) (ht : P.underlying t = some (.slice 5)) (hu : P.underlying u = some .string) (hi : P.info? 5 = some i) (hz : i.zero = some (.int .u8 0))
    (hsize : i.size = 1) (hby : i.bytes = 1) (hs : a.eval sl = v) (hown : Onto w0 base v0 w v xs) (s : ByteArray) (hx : a.eval x = .string s)
    (hbytes : xs.length + s.size ≤ 140737488355328) (hbase : base ≤ w0.heap.size)
    (h : ∀ v' w', Onto w0 base v0 w' v' (xs ++ S s) → wpList P ops Q rest (a.put o.dst v') w') : wpList P ops Q (o :: rest) a w := by
  refine wpList_plain hgd fun K hK => ?_
  obtain ⟨v', w', hr, h2, h3, h4⟩ := string_place (P := P) w base t u o.type 5 i ht hu hi hz hsize hby v _ _ hown.own s (by unfold maxLen; omega) hbytes (Nat.le_trans hbase hown.grown.size)
  unfold Oper.wp execOp
  simp only [ho, resolve, invoke, builtin, Sem.run_bind, Sem.run_pure, Result.andThen_ok, List.map_toArray, List.map_cons, List.map_nil, hs, hx, hr]
  refine hK _ _ (h v' w' (hown.step (news := S s) ?_ h3 h4))
  rw [List.map_append, List.length_append, S_length, ← strCells_S]
  exact h2

/-- THE OPERATION 'append(v, c1, .., cm)': the cells lie in a block of their own, just laid. -/
theorem wp_cells {P : Program} (w : World) {ops : Array Oper} {rest : List Oper} {o : Oper} {a : Act} {Q : Exit → Act → World → Prop} (hgd : o.guard = none) (sl x : Operand) (t : TypeId)
    (ho : o.op = .call { callee := .builtin .append, args := #[sl, x], argTypes := #[t, t] })
    {w0 wr : World} {base : Nat} {v0 v : Value} {xs : List Int} (news : List Int) (ty : TypeId) (hw : w = wr.alloc (.cells (news.map (Value.int .u8)).toArray ty)) (i : TypeInfo) (ht : P.underlying t = some (.slice 5)) (hi : P.info? 5 = some i) (hz : i.zero = some (.int .u8 0))
    (hsize : i.size = 1) (hby : i.bytes = 1) (hs : a.eval sl = v) (hown : Onto w0 base v0 wr v xs) (c : Nat) (hx : a.eval x = .slice (some ⟨wr.heap.size, 0, none⟩) news.length c)
    (hbytes : xs.length + news.length ≤ 140737488355328) (hbase : base ≤ w0.heap.size)
    (h : ∀ v' w', Onto w0 base v0 w' v' (xs ++ news) → wpList P ops Q rest (a.put o.dst v') w') : wpList P ops Q (o :: rest) a w := by
  subst hw
  refine wpList_append_own_at _ hgd sl x t ho base 5 i (.int .u8 0) 1 1 ht hi hz hsize hby rfl (by decide) v _ _ hs (hown.own.alloc _) ⟨wr.heap.size, 0, none⟩ news.length c (news.map (Value.int .u8)) hx (by simp) ?_ (ints_oneCell _ _)
    (by unfold maxLen; omega) (by omega) (by have := hown.grown.size; simp; omega) ?_
  · intro j u hj
    rw [Addr.add_lit, World.cell?_alloc_new]
    simpa using hj
  · intro v' w' h1 h2 _ h4
    refine h v' w' (hown.step ?_ ((World.grownBy_alloc _ _ _).trans h2) ?_)
    · rw [List.map_append, List.length_append]; exact h1
    · rcases h4 with e | e
      · exact .inl e
      · exact .inr ⟨_, e, by simp⟩

end Go.Proofs.Qxb6627918a
