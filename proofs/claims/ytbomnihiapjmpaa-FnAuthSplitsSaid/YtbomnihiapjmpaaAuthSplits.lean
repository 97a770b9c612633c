/-
  For at most 10 permissions and a range that a key divides, a permission for the range is as much as two for its parts.
-/
import Derived.Test.YtbomnihiapjmpaaRows
import Derived.Test.YtbomnihiapjmpaaMsa
import Derived.Test.YtbomnihiapjmpaaMsg
import Derived.WalkKit
import Derived.ProofKit
import Derived.OpenShut
import Derived.ShutString
import Derived.ChangeOld
import Derived.Below
namespace Go.Proofs.Ytbomnihiapjmpaa.FnAuthSplitsRow
open Go.ChangeShapes Go.WideShapes Go.ChangeAt Go.RowKit
open Go.ChangeMaps (open_string shut_string)
set_option linter.unusedVariables false

theorem open_pm {w : World} {ds : List Value} (h : SlRead.Reads Try.prog w 45 ds) : ∃ x : Ae.Pm, ds = x.cells := by
  obtain ⟨h1, h2⟩ := h.fields Try.underlying45 (by kernel_rfl) (by kernel_rfl)
  match ds, h1 with
  | [a, b, c], _ =>
    obtain ⟨p1, e1, -⟩ := (h2 0 _ rfl a rfl).int Try.underlying3
    obtain ⟨p2, e2, -⟩ := (h2 1 _ rfl b rfl).string Try.underlying9
    obtain ⟨p3, e3, -⟩ := (h2 2 _ rfl c rfl).string Try.underlying9
    simp only [List.cons.injEq, and_true] at e1 e2 e3
    subst e1 e2 e3
    exact ⟨⟨p1, p2, p3⟩, rfl⟩
theorem c45 : Try.prog.cellsOf 45 = 3 := by kernel_rfl
theorem open_pms {w : World} {a : Option Addr} {n c : Nat} (R : SlRead.Reads Try.prog w 39 [.slice a n c]) : ∃ l : List Ae.Pm, l.length = n ∧ n ≤ 9223372036854775807 ∧ Sl.Rd (Sl.Old w) 3 Ae.Pm.cells (.slice a n c) l := by
  obtain ⟨a', n', c', l, e, hnc, hc, -, hl, hk, hp⟩ := R.rows (k := 3) Ae.Pm.cells (fun _ => True) Try.underlying39 c45 (by omega) (fun ds h => by obtain ⟨x, h⟩ := open_pm h; exact ⟨x, h, trivial⟩)
  simp only [List.cons.injEq, Value.slice.injEq, and_true] at e
  obtain ⟨rfl, rfl, rfl⟩ := e
  subst hl
  exact ⟨l, rfl, by unfold maxLen at hc; omega, Sl.rd_old hk⟩
theorem walk (w : World) (a1 : Option Addr) (n1 c1 : Nat) (R1 : SlRead.Reads Try.prog w 39 [.slice a1 n1 c1]) (fr : ByteArray) (_ : fr.size ≤ maxLen) (mid : ByteArray) (_ : mid.size ≤ maxLen) (to : ByteArray) (_ : to.size ≤ maxLen) (key : ByteArray) (_ : key.size ≤ maxLen) (fin : ByteArray) (_ : fin.size ≤ maxLen) (kind : Int) (_ : (Lit.int .i64 kind).wf = true) :
    Calls Try.prog 5 #[.slice a1 n1 c1, .string fr, .string mid, .string to, .string key, .string fin, .int .i64 kind] w fun e w' => e = .returned (.bool true) ∧ Below w.heap.size w w' := by
  obtain ⟨l, rfl, b, h⟩ := open_pms R1
  refine (An.splits_spec (Sl.Old w) fr mid to key fin kind l b _ h w [] w (Sl.Sat.start w)).mono ?_
  rintro e w' ⟨v, L, rfl, ⟨rfl, rfl⟩, hs⟩
  exact ⟨rfl, hs.below⟩

theorem own : ownKnob Try.prog.godebug = none := by kernel_rfl
theorem laidOut : laidOutB Try.prog = true := by kernel_rfl

set_option maxRecDepth 100000 in
theorem lifted (os : Os) (started : os.Started) (H : Type) (enc : TypeId × Value → H) :
    ReturnsInHanded {} Try.checked os 5 .any (Rows.fnAuthSplitsSpec.pre6 enc Try.prog Try.f5 Rows.fnAuthSplitsRow.domain false) (Rows.fnAuthSplitsSpec.post enc Try.prog Try.f5 false true false false) := by
  refine returnsInHanded_of_change (C := Try.checked) own started (by kernel_rfl) Try.func5
    (ChangeSpec.witness6 (enc := enc) (C := Try.checked) false ⟨#[], #[.slice none 0 0, .string ByteArray.empty, .string ByteArray.empty, .string ByteArray.empty, .string ByteArray.empty, .string ByteArray.empty, .int .i64 0], []⟩ 8 (by kernel_rfl) (by kernel_rfl) (by kernel_rfl) (by kernel_rfl)) ?_
  intro W base args ds gs before hval0 hW hcnd _
  have hval : ∀ (j : Nat) t v, Try.f5.params[j]? = some t → args[j]? = some v → Value.okWide Try.prog W .any base t v := hval0
  have hW' := hW
  obtain ⟨p, q, hA0, hV, rfl, hfz, hnd⟩ := hW
  have hA : DataW.TrodAll enc Try.prog W 0 (fun _ => true) true Try.f5.params.toList args.toList ds p := hA0
  rw [Try.params5] at hA hval
  obtain ⟨v0, vs0, d0, ds0, p0, q0, hargs, rfl, rfl, h0, r0⟩ := trodAll_cons hA
  obtain ⟨v1, vs1, d1, ds1, p1, q1, rfl, rfl, rfl, h1, r1⟩ := trodAll_cons r0
  obtain ⟨v2, vs2, d2, ds2, p2, q2, rfl, rfl, rfl, h2, r2⟩ := trodAll_cons r1
  obtain ⟨v3, vs3, d3, ds3, p3, q3, rfl, rfl, rfl, h3, r3⟩ := trodAll_cons r2
  obtain ⟨v4, vs4, d4, ds4, p4, q4, rfl, rfl, rfl, h4, r4⟩ := trodAll_cons r3
  obtain ⟨v5, vs5, d5, ds5, p5, q5, rfl, rfl, rfl, h5, r5⟩ := trodAll_cons r4
  obtain ⟨v6, vs6, d6, ds6, p6, q6, rfl, rfl, rfl, h6, r6⟩ := trodAll_cons r5
  obtain ⟨rfl, rfl, rfl⟩ := trodAll_nil r6
  obtain rfl : args = #[v0, v1, v2, v3, v4, v5, v6] := by cases args; simp_all
  obtain ⟨rfl, rfl⟩ := trodVars_none hV
  have k0 := h0
  have lt0 : ∀ x ∈ p0, x.block < W.heap.size := by obtain ⟨m, hm⟩ := k0; exact DataW.trod_lt m _ _ _ hm
  obtain ⟨a0, len0, cap0, rfl⟩ := okWide_slice Try.underlying39 (hval 0 39 v0 rfl rfl)
  have R0 : SlRead.Reads Try.prog W 39 [.slice a0 len0 cap0] := by obtain ⟨fuel, hf⟩ := k0; exact ⟨_, _, _, _, _, _, _, hf⟩
  have k1 := h1
  have lt1 : ∀ x ∈ p1, x.block < W.heap.size := by obtain ⟨m, hm⟩ := k1; exact DataW.trod_lt m _ _ _ hm
  obtain ⟨a1, rfl, -, -, w1⟩ := open_string Try.underlying9 (hval 1 9 v1 rfl rfl) h1
  have k2 := h2
  have lt2 : ∀ x ∈ p2, x.block < W.heap.size := by obtain ⟨m, hm⟩ := k2; exact DataW.trod_lt m _ _ _ hm
  obtain ⟨a2, rfl, -, -, w2⟩ := open_string Try.underlying9 (hval 2 9 v2 rfl rfl) h2
  have k3 := h3
  have lt3 : ∀ x ∈ p3, x.block < W.heap.size := by obtain ⟨m, hm⟩ := k3; exact DataW.trod_lt m _ _ _ hm
  obtain ⟨a3, rfl, -, -, w3⟩ := open_string Try.underlying9 (hval 3 9 v3 rfl rfl) h3
  have k4 := h4
  have lt4 : ∀ x ∈ p4, x.block < W.heap.size := by obtain ⟨m, hm⟩ := k4; exact DataW.trod_lt m _ _ _ hm
  obtain ⟨a4, rfl, -, -, w4⟩ := open_string Try.underlying9 (hval 4 9 v4 rfl rfl) h4
  have k5 := h5
  have lt5 : ∀ x ∈ p5, x.block < W.heap.size := by obtain ⟨m, hm⟩ := k5; exact DataW.trod_lt m _ _ _ hm
  obtain ⟨a5, rfl, -, -, w5⟩ := open_string Try.underlying9 (hval 5 9 v5 rfl rfl) h5
  have k6 := h6
  have lt6 : ∀ x ∈ p6, x.block < W.heap.size := by obtain ⟨m, hm⟩ := k6; exact DataW.trod_lt m _ _ _ hm
  obtain ⟨a6, rfl, -, -, w6⟩ := open_int Try.underlying3 (hval 6 3 v6 rfl rfl) h6
  clear hA0 hval0
  refine (walk W a0 len0 cap0 R0 a1 w1 a2 w2 a3 w3 a4 w4 a5 w5 a6 w6).mono fun e W' ⟨he, bel⟩ => ?_
  subst he
  exact ⟨_, rfl, _, _, _, [], _, [], hW', trodAll_mk1 (shut_bool Try.underlying4 _), (trodAll_cons_mk (Below.trod laidOut (by kernel_rfl) (of_decide_eq_true (by kernel_rfl)) k0 bel lt0) (trodAll_cons_mk (Below.trod laidOut (by kernel_rfl) (of_decide_eq_true (by kernel_rfl)) k1 bel lt1) (trodAll_cons_mk (Below.trod laidOut (by kernel_rfl) (of_decide_eq_true (by kernel_rfl)) k2 bel lt2) (trodAll_cons_mk (Below.trod laidOut (by kernel_rfl) (of_decide_eq_true (by kernel_rfl)) k3 bel lt3) (trodAll_cons_mk (Below.trod laidOut (by kernel_rfl) (of_decide_eq_true (by kernel_rfl)) k4 bel lt4) (trodAll_cons_mk (Below.trod laidOut (by kernel_rfl) (of_decide_eq_true (by kernel_rfl)) k5 bel lt5) (trodAll_cons_mk (Below.trod laidOut (by kernel_rfl) (of_decide_eq_true (by kernel_rfl)) k6 bel lt6) trodAll_mk0))))))), rfl, bel.frame _, fun h => by cases h⟩

theorem over : Rows.fnAuthSplitsRow.holds Try.pinned (OpenSpec.ofChange Rows.fnAuthSplitsSpec) :=
  OpenClaim.holds_of_wide 5 Try.f5 rfl rfl rfl rfl rfl rfl rfl ⟨rfl, rfl, rfl, rfl, rfl⟩ rfl rfl rfl rfl rfl (by kernel_rfl) Try.func5 (by kernel_rfl)
    (of_decide_eq_true (by kernel_rfl)) (by unfold Func.isWrapper; first | (rw [if_pos (by decide +kernel)]; kernel_rfl) | (rw [if_neg (by decide +kernel)]; exact ⟨rfl, rfl⟩))
    (fun os started H enc _ => lifted os started H enc)

theorem fnAuthSplits_holds : Rows.FnAuthSplitsSaid := over
#print axioms fnAuthSplits_holds
end Go.Proofs.Ytbomnihiapjmpaa.FnAuthSplitsRow
