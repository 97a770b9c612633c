/-
  FnTxnCompares: a comparison and its converse.
-/
import Derived.Test.YtibopfemknnocaaRows
import Derived.Test.YtibopfemknnocaaOpens
import Derived.Test.YtibopfemknnocaaCmpLaw2
import Derived.WalkKit
import Derived.ProofKit
import Derived.OpenShut
import Derived.ShutString
import Derived.ChangeOld
import Derived.Below
namespace Go.Proofs.Ytibopfemknnocaa.FnTxnComparesRow
open Go.ChangeShapes Go.WideShapes Go.ChangeAt Go.RowKit
open Go.ChangeMaps (open_string shut_string)
set_option linter.unusedVariables false

theorem walk (w : World) (cs : Array Value) (R : Open.Reads Try.prog w 38 cs.toList) (ds : Array Value) (S : Open.Reads Try.prog w 34 ds.toList) :
    Calls Try.prog 6 #[.agg cs, .agg ds] w fun e w' => e = .returned (.bool true) ∧ Below w.heap.size w w' := by
  obtain ⟨t, r, k, e, n, x, b, hc, -⟩ := Opens.open38 R
  obtain ⟨key, val, cr, md, ver, ls, hd, -⟩ := Opens.open34 S
  obtain rfl : cs = #[.int .i64 t, .int .i64 r, .string k, .string e, .int .i64 n, .string x, .bool b] := by rw [← Array.toArray_toList (xs := cs), hc]
  obtain rfl : ds = #[.string key, .string val, .int .i64 cr, .int .i64 md, .int .i64 ver, .int .i64 ls] := by rw [← Array.toArray_toList (xs := ds), hd]
  exact CmpLaw.law w t r n k e x key val cr md ver ls b

theorem own : ownKnob Try.prog.godebug = none := by kernel_rfl
theorem laidOut : laidOutB Try.prog = true := by kernel_rfl

set_option maxRecDepth 100000 in
theorem lifted (os : Os) (started : os.Started) (H : Type) (enc : TypeId × Value → H) :
    ReturnsInHanded {} Try.checked os 6 .any (Rows.fnTxnComparesSpec.pre6 enc Try.prog Try.f6 Rows.fnTxnComparesRow.domain false) (Rows.fnTxnComparesSpec.post enc Try.prog Try.f6 false true false false) := by
  refine returnsInHanded_of_change (C := Try.checked) own started (by kernel_rfl) Try.func6
    (ChangeSpec.witness6 (enc := enc) (C := Try.checked) false ⟨#[], #[.agg #[.int .i64 0, .int .i64 0, .string ByteArray.empty, .string ByteArray.empty, .int .i64 0, .string ByteArray.empty, .bool false], .agg #[.string ByteArray.empty, .string ByteArray.empty, .int .i64 0, .int .i64 0, .int .i64 0, .int .i64 0]], []⟩ 8 (by kernel_rfl) (by kernel_rfl) (by kernel_rfl) (by kernel_rfl)) ?_
  intro W base args ds gs before hval0 hW hcnd _
  have hval : ∀ (j : Nat) t v, Try.f6.params[j]? = some t → args[j]? = some v → Value.okWide Try.prog W .any base t v := hval0
  have hW' := hW
  obtain ⟨p, q, hA0, hV, rfl, hfz, hnd⟩ := hW
  have hA : DataW.TrodAll enc Try.prog W 0 (fun _ => true) true Try.f6.params.toList args.toList ds p := hA0
  rw [Try.params6] at hA hval
  obtain ⟨v0, vs0, d0, ds0, p0, q0, hargs, rfl, rfl, h0, r0⟩ := trodAll_cons hA
  obtain ⟨v1, vs1, d1, ds1, p1, q1, rfl, rfl, rfl, h1, r1⟩ := trodAll_cons r0
  obtain ⟨rfl, rfl, rfl⟩ := trodAll_nil r1
  obtain rfl : args = #[v0, v1] := by cases args; simp_all
  obtain ⟨rfl, rfl⟩ := trodVars_none hV
  have k0 := h0
  have lt0 : ∀ x ∈ p0, x.block < W.heap.size := by obtain ⟨m, hm⟩ := k0; exact DataW.trod_lt m _ _ _ hm
  obtain ⟨cs0, rfl, -⟩ := okWide_struct Try.underlying38 (hval 0 38 v0 rfl rfl)
  have R0 : Open.Reads Try.prog W 38 cs0.toList := by obtain ⟨fuel, hf⟩ := k0; exact ⟨_, _, _, _, _, _, _, hf⟩
  have k1 := h1
  have lt1 : ∀ x ∈ p1, x.block < W.heap.size := by obtain ⟨m, hm⟩ := k1; exact DataW.trod_lt m _ _ _ hm
  obtain ⟨cs1, rfl, -⟩ := okWide_struct Try.underlying34 (hval 1 34 v1 rfl rfl)
  have R1 : Open.Reads Try.prog W 34 cs1.toList := by obtain ⟨fuel, hf⟩ := k1; exact ⟨_, _, _, _, _, _, _, hf⟩
  clear hA0 hval0
  refine (walk W cs0 R0 cs1 R1).mono fun e W' ⟨he, bel⟩ => ?_
  subst he
  exact ⟨_, rfl, _, _, _, [], _, [], hW', trodAll_mk1 (shut_bool Try.underlying4 _), (trodAll_cons_mk (Below.trod laidOut (by kernel_rfl) (of_decide_eq_true (by kernel_rfl)) k0 bel lt0) (trodAll_cons_mk (Below.trod laidOut (by kernel_rfl) (of_decide_eq_true (by kernel_rfl)) k1 bel lt1) trodAll_mk0)), rfl, bel.frame _, fun h => by cases h⟩

theorem over : Rows.fnTxnComparesRow.holds Try.pinned (OpenSpec.ofChange Rows.fnTxnComparesSpec) :=
  OpenClaim.holds_of_wide 6 Try.f6 rfl rfl rfl rfl rfl rfl rfl ⟨rfl, rfl, rfl, rfl, rfl⟩ rfl rfl rfl rfl rfl (by kernel_rfl) Try.func6 (by kernel_rfl)
    (of_decide_eq_true (by kernel_rfl)) (by unfold Func.isWrapper; first | (rw [if_pos (by decide +kernel)]; kernel_rfl) | (rw [if_neg (by decide +kernel)]; exact ⟨rfl, rfl⟩))
    (fun os started H enc _ => lifted os started H enc)

theorem fnTxnCompares_holds : Rows.FnTxnComparesSaid := over
#print axioms fnTxnCompares_holds
end Go.Proofs.Ytibopfemknnocaa.FnTxnComparesRow
