/-
  For at most 200 different intervals of an order, an interval intersects the tree of them just if it has something in common with one of them.
-/
import Derived.Test.YtbomnihiapjmpaaRows
import Derived.Test.YtbomnihiapjmpaaMia
import Derived.Test.YtbomnihiapjmpaaMif
import Derived.WalkKit
import Derived.ProofKit
import Derived.OpenShut
import Derived.ShutString
import Derived.ChangeOld
import Derived.Below
namespace Go.Proofs.Ytbomnihiapjmpaa.FnTreeIntersectsRow
open Go.ChangeShapes Go.WideShapes Go.ChangeAt Go.RowKit
open Go.ChangeMaps (open_string shut_string)
set_option linter.unusedVariables false

theorem c54 : Try.prog.cellsOf 54 = 3 := by kernel_rfl
theorem c2 : Try.prog.cellsOf 2 = 1 := by kernel_rfl
theorem c56 : Try.prog.cellsOf 56 = 5 := by kernel_rfl
theorem open_ivl {w : World} {ds : List Value} (h : SlRead.Reads Try.prog w 54 ds) : ∃ (k f : ByteArray) (o : Bool), ds = [.string k, .string f, .bool o] := by
  obtain ⟨h1, h2⟩ := h.fields Try.underlying54 (by kernel_rfl) (by kernel_rfl)
  match ds, h1 with
  | [a, b, c], _ =>
    obtain ⟨p1, e1, -⟩ := (h2 0 _ rfl a rfl).string Try.underlying9
    obtain ⟨p2, e2, -⟩ := (h2 1 _ rfl b rfl).string Try.underlying9
    obtain ⟨p3, e3⟩ := (h2 2 _ rfl c rfl).bool Try.underlying4
    simp only [List.cons.injEq, and_true] at e1 e2 e3
    subst e1 e2 e3
    exact ⟨p1, p2, p3, rfl⟩
set_option maxRecDepth 20000 in
theorem open_span {w : World} {ds : List Value} (h : SlRead.Reads Try.prog w 56 ds) : ∃ x : Tr.Sp, ds = TC.Sp.cells x := by
  obtain ⟨h1, h2⟩ := h.struct Try.underlying56
  rw [c56] at h1
  have a0 : SlRead.Reads Try.prog w 54 ((ds.drop 0).take (Try.prog.cellsOf 54)) := h2 0 _ rfl
  have a1 : SlRead.Reads Try.prog w 2 ((ds.drop 3).take (Try.prog.cellsOf 2)) := h2 1 _ rfl
  have a2 : SlRead.Reads Try.prog w 2 ((ds.drop 4).take (Try.prog.cellsOf 2)) := h2 2 _ rfl
  rw [c54] at a0
  rw [c2] at a1 a2
  obtain ⟨k, f, o, e0⟩ := open_ivl a0
  obtain ⟨m, e1, -⟩ := a1.int Try.underlying2
  obtain ⟨n, e2, -⟩ := a2.int Try.underlying2
  refine ⟨⟨k, f, o, m, n⟩, ?_⟩
  match ds, h1 with
  | [d0, d1, d2, d3, d4], _ =>
    simp at e0 e1 e2
    obtain ⟨rfl, rfl, rfl⟩ := e0
    obtain rfl := e1
    obtain rfl := e2
    rfl
theorem open_spans {w : World} {a : Option Addr} {n c : Nat} (R : SlRead.Reads Try.prog w 57 [.slice a n c]) : ∃ l : List Tr.Sp, l.length = n ∧ n ≤ 9223372036854775807 ∧ Sl.Rd (Sl.Old w) 5 TC.Sp.cells (.slice a n c) l := by
  obtain ⟨a', n', c', l, e, hnc, hc, -, hl, hk, hp⟩ := R.rows (k := 5) TC.Sp.cells (fun _ => True) Try.underlying57 c56 (by omega) (fun ds h => by obtain ⟨x, h⟩ := open_span h; exact ⟨x, h, trivial⟩)
  simp only [List.cons.injEq, Value.slice.injEq, and_true] at e
  obtain ⟨rfl, rfl, rfl⟩ := e
  subst hl
  exact ⟨l, rfl, by unfold maxLen at hc; omega, Sl.rd_old hk⟩
theorem walk (w : World) (k : Int) (_ : (Lit.int .i64 k).wf = true) (a1 : Option Addr) (n1 c1 : Nat) (R1 : SlRead.Reads Try.prog w 57 [.slice a1 n1 c1]) (cs : Array Value) (R2 : SlRead.Reads Try.prog w 56 cs.toList) :
    Calls Try.prog 8 #[.int .i64 k, .slice a1 n1 c1, .agg cs] w fun e w' => e = .returned (.bool true) ∧ Below w.heap.size w w' := by
  obtain ⟨l, rfl, b, h⟩ := open_spans R1
  obtain ⟨x, hx⟩ := open_span R2
  have hcs : cs = #[.string x.key, .string x.fin, .bool x.one, .int .i64 x.lo, .int .i64 x.hi] := by
    apply Array.ext'
    exact hx
  rw [hcs]
  refine (TR.isect_law w k l _ h b x w [] w (Sl.Sat.start w)).mono ?_
  rintro e w' ⟨v, L, rfl, ⟨rfl, rfl⟩, hs⟩
  exact ⟨rfl, hs.below⟩

theorem own : ownKnob Try.prog.godebug = none := by kernel_rfl
theorem laidOut : laidOutB Try.prog = true := by kernel_rfl

set_option maxRecDepth 100000 in
theorem lifted (os : Os) (started : os.Started) (H : Type) (enc : TypeId × Value → H) :
    ReturnsInHanded {} Try.checked os 8 .any (Rows.fnTreeIntersectsSpec.pre6 enc Try.prog Try.f8 Rows.fnTreeIntersectsRow.domain false) (Rows.fnTreeIntersectsSpec.post enc Try.prog Try.f8 false true false false) := by
  refine returnsInHanded_of_change (C := Try.checked) own started (by kernel_rfl) Try.func8
    (ChangeSpec.witness6 (enc := enc) (C := Try.checked) false ⟨#[], #[.int .i64 0, .slice none 0 0, .agg #[.string ByteArray.empty, .string ByteArray.empty, .bool false, .int .i64 0, .int .i64 0]], []⟩ 8 (by kernel_rfl) (by kernel_rfl) (by kernel_rfl) (by kernel_rfl)) ?_
  intro W base args ds gs before hval0 hW hcnd _
  have hval : ∀ (j : Nat) t v, Try.f8.params[j]? = some t → args[j]? = some v → Value.okWide Try.prog W .any base t v := hval0
  have hW' := hW
  obtain ⟨p, q, hA0, hV, rfl, hfz, hnd⟩ := hW
  have hA : DataW.TrodAll enc Try.prog W 0 (fun _ => true) true Try.f8.params.toList args.toList ds p := hA0
  rw [Try.params8] at hA hval
  obtain ⟨v0, vs0, d0, ds0, p0, q0, hargs, rfl, rfl, h0, r0⟩ := trodAll_cons hA
  obtain ⟨v1, vs1, d1, ds1, p1, q1, rfl, rfl, rfl, h1, r1⟩ := trodAll_cons r0
  obtain ⟨v2, vs2, d2, ds2, p2, q2, rfl, rfl, rfl, h2, r2⟩ := trodAll_cons r1
  obtain ⟨rfl, rfl, rfl⟩ := trodAll_nil r2
  obtain rfl : args = #[v0, v1, v2] := by cases args; simp_all
  obtain ⟨rfl, rfl⟩ := trodVars_none hV
  have k0 := h0
  have lt0 : ∀ x ∈ p0, x.block < W.heap.size := by obtain ⟨m, hm⟩ := k0; exact DataW.trod_lt m _ _ _ hm
  obtain ⟨a0, rfl, -, -, w0⟩ := open_int Try.underlying3 (hval 0 3 v0 rfl rfl) h0
  have k1 := h1
  have lt1 : ∀ x ∈ p1, x.block < W.heap.size := by obtain ⟨m, hm⟩ := k1; exact DataW.trod_lt m _ _ _ hm
  obtain ⟨a1, len1, cap1, rfl⟩ := okWide_slice Try.underlying57 (hval 1 57 v1 rfl rfl)
  have R1 : SlRead.Reads Try.prog W 57 [.slice a1 len1 cap1] := by obtain ⟨fuel, hf⟩ := k1; exact ⟨_, _, _, _, _, _, _, hf⟩
  have k2 := h2
  have lt2 : ∀ x ∈ p2, x.block < W.heap.size := by obtain ⟨m, hm⟩ := k2; exact DataW.trod_lt m _ _ _ hm
  obtain ⟨cs2, rfl, -⟩ := okWide_struct Try.underlying56 (hval 2 56 v2 rfl rfl)
  have R2 : SlRead.Reads Try.prog W 56 cs2.toList := by obtain ⟨fuel, hf⟩ := k2; exact ⟨_, _, _, _, _, _, _, hf⟩
  clear hA0 hval0
  refine (walk W a0 w0 a1 len1 cap1 R1 cs2 R2).mono fun e W' ⟨he, bel⟩ => ?_
  subst he
  exact ⟨_, rfl, _, _, _, [], _, [], hW', trodAll_mk1 (shut_bool Try.underlying4 _), (trodAll_cons_mk (Below.trod laidOut (by kernel_rfl) (of_decide_eq_true (by kernel_rfl)) k0 bel lt0) (trodAll_cons_mk (Below.trod laidOut (by kernel_rfl) (of_decide_eq_true (by kernel_rfl)) k1 bel lt1) (trodAll_cons_mk (Below.trod laidOut (by kernel_rfl) (of_decide_eq_true (by kernel_rfl)) k2 bel lt2) trodAll_mk0))), rfl, bel.frame _, fun h => by cases h⟩

theorem over : Rows.fnTreeIntersectsRow.holds Try.pinned (OpenSpec.ofChange Rows.fnTreeIntersectsSpec) :=
  OpenClaim.holds_of_wide 8 Try.f8 rfl rfl rfl rfl rfl rfl rfl ⟨rfl, rfl, rfl, rfl, rfl⟩ rfl rfl rfl rfl rfl (by kernel_rfl) Try.func8 (by kernel_rfl)
    (of_decide_eq_true (by kernel_rfl)) (by unfold Func.isWrapper; first | (rw [if_pos (by decide +kernel)]; kernel_rfl) | (rw [if_neg (by decide +kernel)]; exact ⟨rfl, rfl⟩))
    (fun os started H enc _ => lifted os started H enc)

theorem fnTreeIntersects_holds : Rows.FnTreeIntersectsSaid := over
#print axioms fnTreeIntersects_holds
end Go.Proofs.Ytbomnihiapjmpaa.FnTreeIntersectsRow
