/-
  The row of the second law of seat b6627953a, FnChangingInsertKey: the frame after the skeleton tool's; the walk is lawD_nil (keys nil) and lawD_map.
-/
import Derived.Test.Qxb6627953aLawE
import Derived.Test.Qxb6627953aOpen
import Derived.WalkKit
import Derived.ProofKit
import Derived.OpenShut
import Derived.ShutString
import Derived.ChangeOld
import Derived.Below
namespace Go.Proofs.Qxb6627953a.fnChangingInsertKey
open Go.ChangeShapes Go.WideShapes Go.ChangeAt Go.RowKit
open Go.ChangeMaps (open_string shut_string)
set_option linter.unusedVariables false

theorem own : ownKnob Try.prog.godebug = none := by kernel_rfl
theorem laidOut : laidOutB Try.prog = true := by kernel_rfl

theorem walk (num ep : Int) (na : Option Addr) (nn nc : Nat) (rd wr : Int) (fr ta : Option Addr) (tn tc : Nat) (la : Option Addr) (ln lc : Nat) (ka : Option Addr) (kn kc : Nat) (hm : Bool) (nm : ByteArray) (kr kw : Int) (kf kfa : Option Addr) (kfn kfc : Nat)
    (SN ST N : Nat → ByteArray) (F fa : Nat → Option Addr) (fn fc : Nat → Nat) (w : World) (hN : StrSl w na nn nc SN) (hq : Quo w fr) (hT : StrSl w ta tn tc ST) (hF : FlSl w la ln lc) (hK : KeySl w ka kn kc N F fa fn fc) (hnm : nm.size ≤ maxLen) (hkq : Quo w kf) (hkf : FlSl w kfa kfn kfc) :
    Calls Try.prog 4 #[.agg #[.int .u64 num, .int .u64 ep, .slice na nn nc, .int .i64 rd, .int .i64 wr, .pointer fr, .slice ta tn tc, .slice la ln lc, .slice ka kn kc, .bool hm], .string nm, .agg #[.int .i64 kr, .int .i64 kw, .pointer kf, .slice kfa kfn kfc]] w fun e w' => e = .returned (.bool true) ∧ Below w.heap.size w w' := by
  cases ka with
  | none =>
    obtain ⟨rfl, rfl⟩ := hK.nil rfl
    exact lawD_nil num ep na nn nc rd wr fr ta tn tc la ln lc hm nm kr kw kf kfa kfn kfc SN ST N F fa fn fc w hN hq hT hF hK hnm hkq hkf
  | some x => exact lawD_map num ep na nn nc rd wr fr ta tn tc la ln lc x kn kc hm nm kr kw kf kfa kfn kfc SN ST N F fa fn fc w hN hq hT hF hK hnm hkq hkf

set_option maxRecDepth 100000 in
theorem lifted (os : Os) (started : os.Started) (H : Type) (enc : TypeId × Value → H) :
    ReturnsInHanded {} Try.checked os 4 .any (Rows.fnChangingInsertKeySpec.pre6 enc Try.prog Try.f4 Rows.fnChangingInsertKeyRow.domain false) (Rows.fnChangingInsertKeySpec.post enc Try.prog Try.f4 false true false false) := by
  refine returnsInHanded_of_change (C := Try.checked) own started (by kernel_rfl) Try.func4
    (ChangeSpec.witness6 (enc := enc) (C := Try.checked) false ⟨#[], #[.agg #[.int .u64 0, .int .u64 0, .slice none 0 0, .int .i64 0, .int .i64 0, .pointer none, .slice none 0 0, .slice none 0 0, .slice none 0 0, .bool false], .string ByteArray.empty, .agg #[.int .i64 0, .int .i64 0, .pointer none, .slice none 0 0]], []⟩ 8 (by kernel_rfl) (by kernel_rfl) (by kernel_rfl) (by kernel_rfl)) ?_
  intro W base args ds gs before hval0 hW hcnd _
  have hval : ∀ (j : Nat) t v, Try.f4.params[j]? = some t → args[j]? = some v → Value.okWide Try.prog W .any base t v := hval0
  have hW' := hW
  obtain ⟨p, q, hA0, hV, rfl, hfz, hnd⟩ := hW
  have hA : DataW.TrodAll enc Try.prog W 0 (fun _ => true) true Try.f4.params.toList args.toList ds p := hA0
  rw [Try.params4] at hA hval
  obtain ⟨v0, vs0, d0, ds0, p0, q0, hargs, rfl, rfl, h0, r0⟩ := trodAll_cons hA
  obtain ⟨v1, vs1, d1, ds1, p1, q1, rfl, rfl, rfl, h1, r1⟩ := trodAll_cons r0
  obtain ⟨v2, vs2, d2, ds2, p2, q2, rfl, rfl, rfl, h2, r2⟩ := trodAll_cons r1
  obtain ⟨rfl, rfl, rfl⟩ := trodAll_nil r2
  obtain rfl : args = #[v0, v1, v2] := by cases args; simp_all
  obtain ⟨rfl, rfl⟩ := trodVars_none hV
  have k0 := h0
  have lt0 : ∀ x ∈ p0, x.block < W.heap.size := by obtain ⟨m, hm⟩ := k0; exact DataW.trod_lt m _ _ _ hm
  obtain ⟨num, ep, na, nn, nc, rd, wr, fr, ta, tn, tc, la, ln, lc, ka, kn, kc, hm, SN, ST, N, F, fa, fn, fc, rfl, hN, hq, hT, hF, hK⟩ := open_cfg (hval 0 28 v0 rfl rfl) h0
  obtain ⟨nm, rfl, rfl, rfl, hnm⟩ := open_string Try.underlying9 (hval 1 9 v1 rfl rfl) h1
  have k2 := h2
  have lt2 : ∀ x ∈ p2, x.block < W.heap.size := by obtain ⟨m, hm⟩ := k2; exact DataW.trod_lt m _ _ _ hm
  obtain ⟨kr, kw, kf, kfa, kfn, kfc, rfl, hkq, hkf⟩ := open_kv (hval 2 39 v2 rfl rfl) h2
  clear hA0 hval0
  refine (walk num ep na nn nc rd wr fr ta tn tc la ln lc ka kn kc hm nm kr kw kf kfa kfn kfc SN ST N F fa fn fc W hN hq hT hF hK hnm hkq hkf).mono fun e W' ⟨he, bel⟩ => ?_
  subst he
  exact ⟨_, rfl, _, _, _, [], _, [], hW', trodAll_mk1 (shut_bool Try.underlying4 _), (trodAll_cons_mk (Below.trod laidOut (by kernel_rfl) (of_decide_eq_true (by kernel_rfl)) k0 bel lt0) (trodAll_cons_mk (shut_string Try.underlying9 hnm) (trodAll_cons_mk (Below.trod laidOut (by kernel_rfl) (of_decide_eq_true (by kernel_rfl)) k2 bel lt2) trodAll_mk0))), rfl, bel.frame _, fun h => by cases h⟩

theorem over : Rows.fnChangingInsertKeyRow.holds Try.pinned (OpenSpec.ofChange Rows.fnChangingInsertKeySpec) :=
  OpenClaim.holds_of_wide 4 Try.f4 rfl rfl rfl rfl rfl rfl rfl ⟨rfl, rfl, rfl, rfl, rfl⟩ rfl rfl rfl rfl rfl (by kernel_rfl) Try.func4 (by kernel_rfl)
    (of_decide_eq_true (by kernel_rfl)) (by unfold Func.isWrapper; first | (rw [if_pos (by decide +kernel)]; kernel_rfl) | (rw [if_neg (by decide +kernel)]; exact ⟨rfl, rfl⟩))
    (fun os started H enc _ => lifted os started H enc)

/-- THE STATEMENT. -/
theorem proved : Rows.FnChangingInsertKeySaid := over
#print axioms proved
end Go.Proofs.Qxb6627953a.fnChangingInsertKey
