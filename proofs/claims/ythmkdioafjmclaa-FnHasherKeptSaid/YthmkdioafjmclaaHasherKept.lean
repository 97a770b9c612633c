/-
  FnHasherKept: the row, over the walk of the law (Hq): a hash hangs on the order and the number of what is kept not at all.
-/
import Derived.Test.YthmkdioafjmclaaRows
import Derived.Test.YthmkdioafjmclaaHq
import Derived.Test.YthmkdioafjmclaaSlRead
import Derived.WalkKit
import Derived.ProofKit
import Derived.OpenShut
import Derived.ShutString
import Derived.ChangeOld
import Derived.Below
namespace Go.Proofs.Ythmkdioafjmclaa.FnHasherKeptRow
open Go.ChangeShapes Go.WideShapes Go.ChangeAt Go.RowKit
open Go.ChangeMaps (open_string shut_string)
set_option linter.unusedVariables false

theorem open_rev {w : World} {ds : List Value} (h : SlRead.Reads Try.prog w 47 ds) : ∃ x : Hl.Rv, ds = x.cells ∧ ((Lit.int .i64 x.m).wf = true ∧ (Lit.int .i64 x.s).wf = true) := by
  obtain ⟨h1, h2⟩ := h.fields Try.underlying47 (by kernel_rfl) (by kernel_rfl)
  match ds, h1 with
  | [x, y], _ =>
    obtain ⟨p, e1, w1⟩ := (h2 0 _ rfl x rfl).int Try.underlying2
    obtain ⟨q, e2, w2⟩ := (h2 1 _ rfl y rfl).int Try.underlying2
    simp only [List.cons.injEq, and_true] at e1 e2
    subst e1 e2
    exact ⟨⟨p, q⟩, rfl, w1, w2⟩
theorem open_kv {w : World} {ds : List Value} (h : SlRead.Reads Try.prog w 104 ds) : ∃ x : Hm.KVr, ds = x.cells := by
  obtain ⟨h1, h2⟩ := h.fields Try.underlying104 (by kernel_rfl) (by kernel_rfl)
  match ds, h1 with
  | [a, b, c, d, e, f], _ =>
    obtain ⟨p1, e1, -⟩ := (h2 0 _ rfl a rfl).string Try.underlying9
    obtain ⟨p2, e2, -⟩ := (h2 1 _ rfl b rfl).string Try.underlying9
    obtain ⟨p3, e3, -⟩ := (h2 2 _ rfl c rfl).int Try.underlying2
    obtain ⟨p4, e4, -⟩ := (h2 3 _ rfl d rfl).int Try.underlying2
    obtain ⟨p5, e5, -⟩ := (h2 4 _ rfl e rfl).int Try.underlying2
    obtain ⟨p6, e6, -⟩ := (h2 5 _ rfl f rfl).int Try.underlying2
    simp only [List.cons.injEq, and_true] at e1 e2 e3 e4 e5 e6
    subst e1 e2 e3 e4 e5 e6
    exact ⟨⟨p1, p2, p3, p4, p5, p6⟩, rfl⟩
theorem c47 : Try.prog.cellsOf 47 = 2 := by kernel_rfl
theorem c104 : Try.prog.cellsOf 104 = 6 := by kernel_rfl
theorem c4 : Try.prog.cellsOf 4 = 1 := by kernel_rfl
theorem c106 : Try.prog.cellsOf 106 = 9 := by kernel_rfl
set_option maxRecDepth 20000 in
theorem open_row {w : World} {ds : List Value} (h : SlRead.Reads Try.prog w 106 ds) : ∃ x : Hz.Rw, ds = x.cells ∧ ((Lit.int .i64 x.m).wf = true ∧ (Lit.int .i64 x.s).wf = true) := by
  obtain ⟨h1, h2⟩ := h.struct Try.underlying106
  rw [c106] at h1
  have a0 : SlRead.Reads Try.prog w 47 ((ds.drop 0).take (Try.prog.cellsOf 47)) := h2 0 _ rfl
  have a1 : SlRead.Reads Try.prog w 4 ((ds.drop 2).take (Try.prog.cellsOf 4)) := h2 1 _ rfl
  have a2 : SlRead.Reads Try.prog w 104 ((ds.drop 3).take (Try.prog.cellsOf 104)) := h2 2 _ rfl
  rw [c47] at a0
  rw [c4] at a1
  rw [c104] at a2
  obtain ⟨x, e0, hw⟩ := open_rev a0
  obtain ⟨b, e1⟩ := a1.bool Try.underlying4
  obtain ⟨k, e2⟩ := open_kv a2
  refine ⟨⟨x.m, x.s, b, k⟩, ?_, hw⟩
  match ds, h1 with
  | [d0, d1, d2, d3, d4, d5, d6, d7, d8], _ =>
    simp [Hl.Rv.cells, Hm.KVr.cells] at e0 e1 e2
    obtain ⟨rfl, rfl⟩ := e0
    obtain rfl := e1
    obtain ⟨rfl, rfl, rfl, rfl, rfl, rfl⟩ := e2
    rfl
theorem open_revs {w : World} {a : Option Addr} {n c : Nat} (R : SlRead.Reads Try.prog w 41 [.slice a n c]) : ∃ l : List Hl.Rv, l.length = n ∧ n ≤ 9223372036854775807 ∧ Sl.Rd (Sl.Old w) 2 Hl.Rv.cells (.slice a n c) l ∧ ∀ x ∈ l, (Lit.int .i64 x.m).wf = true ∧ (Lit.int .i64 x.s).wf = true := by
  obtain ⟨a', n', c', l, e, hnc, hc, -, hl, hk, hp⟩ := R.rows (k := 2) Hl.Rv.cells (fun x => (Lit.int .i64 x.m).wf = true ∧ (Lit.int .i64 x.s).wf = true) Try.underlying41 c47 (by omega) (fun ds h => open_rev h)
  simp only [List.cons.injEq, Value.slice.injEq, and_true] at e
  obtain ⟨rfl, rfl, rfl⟩ := e
  subst hl
  exact ⟨l, rfl, by unfold maxLen at hc; omega, Sl.rd_old hk, hp⟩
theorem open_rows {w : World} {a : Option Addr} {n c : Nat} (R : SlRead.Reads Try.prog w 42 [.slice a n c]) : ∃ l : List Hz.Rw, l.length = n ∧ n ≤ 9223372036854775807 ∧ Sl.Rd (Sl.Old w) 9 Hz.Rw.cells (.slice a n c) l ∧ ∀ x ∈ l, (Lit.int .i64 x.m).wf = true ∧ (Lit.int .i64 x.s).wf = true := by
  obtain ⟨a', n', c', l, e, hnc, hc, -, hl, hk, hp⟩ := R.rows (k := 9) Hz.Rw.cells (fun x => (Lit.int .i64 x.m).wf = true ∧ (Lit.int .i64 x.s).wf = true) Try.underlying42 c106 (by omega) (fun ds h => open_row h)
  simp only [List.cons.injEq, Value.slice.injEq, and_true] at e
  obtain ⟨rfl, rfl, rfl⟩ := e
  subst hl
  exact ⟨l, rfl, by unfold maxLen at hc; omega, Sl.rd_old hk, hp⟩
theorem walk (w : World) (c : Int) (_ : (Lit.int .i64 c).wf = true) (r : Int) (_ : (Lit.int .i64 r).wf = true) (a2 : Option Addr) (n2 c2 : Nat) (R2 : SlRead.Reads Try.prog w 41 [.slice a2 n2 c2]) (a3 : Option Addr) (n3 c3 : Nat) (R3 : SlRead.Reads Try.prog w 42 [.slice a3 n3 c3]) (a4 : Option Addr) (n4 c4 : Nat) (R4 : SlRead.Reads Try.prog w 41 [.slice a4 n4 c4]) :
    Calls Try.prog 5 #[.int .i64 c, .int .i64 r, .slice a2 n2 c2, .slice a3 n3 c3, .slice a4 n4 c4] w fun e w' => e = .returned (.bool true) ∧ Below w.heap.size w w' := by
  obtain ⟨l2, rfl, b2, h2, p2⟩ := open_revs R2
  obtain ⟨l3, rfl, b3, h3, p3⟩ := open_rows R3
  obtain ⟨l4, rfl, b4, h4, p4⟩ := open_revs R4
  refine (Hq.law_spec w c r l2 _ h2 b2 l3 _ h3 b3 l4 _ h4 b4 p2 p3 p4 w [] w (Sl.Sat.start w)).mono ?_
  rintro e w' ⟨v, L, rfl, ⟨rfl, rfl⟩, hs⟩
  exact ⟨rfl, hs.below⟩

theorem own : ownKnob Try.prog.godebug = none := by kernel_rfl
theorem laidOut : laidOutB Try.prog = true := by kernel_rfl

set_option maxRecDepth 100000 in
theorem lifted (os : Os) (started : os.Started) (H : Type) (enc : TypeId × Value → H) :
    ReturnsInHanded {} Try.checked os 5 .any (Rows.fnHasherKeptSpec.pre6 enc Try.prog Try.f5 Rows.fnHasherKeptRow.domain false) (Rows.fnHasherKeptSpec.post enc Try.prog Try.f5 false true false false) := by
  refine returnsInHanded_of_change (C := Try.checked) own started (by kernel_rfl) Try.func5
    (ChangeSpec.witness6 (enc := enc) (C := Try.checked) false ⟨#[], #[.int .i64 0, .int .i64 0, .slice none 0 0, .slice none 0 0, .slice none 0 0], []⟩ 8 (by kernel_rfl) (by kernel_rfl) (by kernel_rfl) (by kernel_rfl)) ?_
  intro W base args ds gs before hval0 hW hcnd _
  have hval : ∀ (j : Nat) t v, Try.f5.params[j]? = some t → args[j]? = some v → Value.okWide Try.prog W .any base t v := hval0
  have hW' := hW
  obtain ⟨p, q, hA0, hV, rfl, hfz, hnd⟩ := hW
  have hA : DataW.TrodAll enc Try.prog W 0 (fun _ => true) true Try.f5.params.toList args.toList ds p := hA0
  rw [Try.params5] at hA hval
  obtain ⟨v0, vs0, d0, ds0, p0, q0, hargs, rfl, rfl, h0, r0⟩ := trodAll_cons hA
  obtain ⟨v1, vs1, d1, ds1, p1, q1, rfl, rfl, rfl, h1, r1⟩ := trodAll_cons r0
  obtain ⟨v2, vs2, d2, ds2, p2, q2, rfl, rfl, rfl, h2, r2⟩ := trodAll_cons r1
  obtain ⟨v3, vs3, d3, ds3, p3, q3, rfl, rfl, rfl, h3, r3⟩ := trodAll_cons r2
  obtain ⟨v4, vs4, d4, ds4, p4, q4, rfl, rfl, rfl, h4, r4⟩ := trodAll_cons r3
  obtain ⟨rfl, rfl, rfl⟩ := trodAll_nil r4
  obtain rfl : args = #[v0, v1, v2, v3, v4] := by cases args; simp_all
  obtain ⟨rfl, rfl⟩ := trodVars_none hV
  have k0 := h0
  have lt0 : ∀ x ∈ p0, x.block < W.heap.size := by obtain ⟨m, hm⟩ := k0; exact DataW.trod_lt m _ _ _ hm
  obtain ⟨a0, rfl, -, -, w0⟩ := open_int Try.underlying2 (hval 0 2 v0 rfl rfl) h0
  have k1 := h1
  have lt1 : ∀ x ∈ p1, x.block < W.heap.size := by obtain ⟨m, hm⟩ := k1; exact DataW.trod_lt m _ _ _ hm
  obtain ⟨a1, rfl, -, -, w1⟩ := open_int Try.underlying2 (hval 1 2 v1 rfl rfl) h1
  have k2 := h2
  have lt2 : ∀ x ∈ p2, x.block < W.heap.size := by obtain ⟨m, hm⟩ := k2; exact DataW.trod_lt m _ _ _ hm
  obtain ⟨a2, len2, cap2, rfl⟩ := okWide_slice Try.underlying41 (hval 2 41 v2 rfl rfl)
  have R2 : SlRead.Reads Try.prog W 41 [.slice a2 len2 cap2] := by obtain ⟨fuel, hf⟩ := k2; exact ⟨_, _, _, _, _, _, _, hf⟩
  have k3 := h3
  have lt3 : ∀ x ∈ p3, x.block < W.heap.size := by obtain ⟨m, hm⟩ := k3; exact DataW.trod_lt m _ _ _ hm
  obtain ⟨a3, len3, cap3, rfl⟩ := okWide_slice Try.underlying42 (hval 3 42 v3 rfl rfl)
  have R3 : SlRead.Reads Try.prog W 42 [.slice a3 len3 cap3] := by obtain ⟨fuel, hf⟩ := k3; exact ⟨_, _, _, _, _, _, _, hf⟩
  have k4 := h4
  have lt4 : ∀ x ∈ p4, x.block < W.heap.size := by obtain ⟨m, hm⟩ := k4; exact DataW.trod_lt m _ _ _ hm
  obtain ⟨a4, len4, cap4, rfl⟩ := okWide_slice Try.underlying41 (hval 4 41 v4 rfl rfl)
  have R4 : SlRead.Reads Try.prog W 41 [.slice a4 len4 cap4] := by obtain ⟨fuel, hf⟩ := k4; exact ⟨_, _, _, _, _, _, _, hf⟩
  clear hA0 hval0
  refine (walk W a0 w0 a1 w1 a2 len2 cap2 R2 a3 len3 cap3 R3 a4 len4 cap4 R4).mono fun e W' ⟨he, bel⟩ => ?_
  subst he
  exact ⟨_, rfl, _, _, _, [], _, [], hW', trodAll_mk1 (shut_bool Try.underlying4 _), (trodAll_cons_mk (Below.trod laidOut (by kernel_rfl) (of_decide_eq_true (by kernel_rfl)) k0 bel lt0) (trodAll_cons_mk (Below.trod laidOut (by kernel_rfl) (of_decide_eq_true (by kernel_rfl)) k1 bel lt1) (trodAll_cons_mk (Below.trod laidOut (by kernel_rfl) (of_decide_eq_true (by kernel_rfl)) k2 bel lt2) (trodAll_cons_mk (Below.trod laidOut (by kernel_rfl) (of_decide_eq_true (by kernel_rfl)) k3 bel lt3) (trodAll_cons_mk (Below.trod laidOut (by kernel_rfl) (of_decide_eq_true (by kernel_rfl)) k4 bel lt4) trodAll_mk0))))), rfl, bel.frame _, fun h => by cases h⟩

theorem over : Rows.fnHasherKeptRow.holds Try.pinned (OpenSpec.ofChange Rows.fnHasherKeptSpec) :=
  OpenClaim.holds_of_wide 5 Try.f5 rfl rfl rfl rfl rfl rfl rfl ⟨rfl, rfl, rfl, rfl, rfl⟩ rfl rfl rfl rfl rfl (by kernel_rfl) Try.func5 (by kernel_rfl)
    (of_decide_eq_true (by kernel_rfl)) (by unfold Func.isWrapper; first | (rw [if_pos (by decide +kernel)]; kernel_rfl) | (rw [if_neg (by decide +kernel)]; exact ⟨rfl, rfl⟩))
    (fun os started H enc _ => lifted os started H enc)

theorem fnHasherKept_holds : Rows.FnHasherKeptSaid := over
#print axioms fnHasherKept_holds
end Go.Proofs.Ythmkdioafjmclaa.FnHasherKeptRow
