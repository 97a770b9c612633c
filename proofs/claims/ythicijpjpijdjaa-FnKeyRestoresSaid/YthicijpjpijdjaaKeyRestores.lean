/-
  PROVED: laws.FnKeyRestores answers true whatever its input, and leaves what it was given as it was. Conditions: none.
-/
import Derived.Test.YthicijpjpijdjaaRows
import Derived.Test.YthicijpjpijdjaaNp
import Derived.WalkKit
import Derived.ProofKit
import Derived.OpenShut
import Derived.ShutString
import Derived.ChangeOld
import Derived.Below
namespace Go.Proofs.Ythicijpjpijdjaa.FnKeyRestoresRow
open Go.ChangeShapes Go.WideShapes Go.ChangeAt Go.RowKit
open Go.ChangeMaps (open_string shut_string)
set_option linter.unusedVariables false

theorem open_rv {w : World} {ds : List Value} (h : SlRead.Reads Try.prog w 32 ds) : ∃ x : KyP.Rv, ds = x.cells := by
  obtain ⟨h1, h2⟩ := h.fields Try.underlying32 (by kernel_rfl) (by kernel_rfl)
  match ds, h1 with
  | [x, y], _ =>
    obtain ⟨p, e1, w1⟩ := (h2 0 _ rfl x rfl).int Try.underlying2
    obtain ⟨q, e2, w2⟩ := (h2 1 _ rfl y rfl).int Try.underlying2
    simp only [List.cons.injEq, and_true] at e1 e2
    subst e1 e2
    exact ⟨⟨p, q⟩, rfl⟩
theorem c32 : Try.prog.cellsOf 32 = 2 := by kernel_rfl
theorem c3 : Try.prog.cellsOf 3 = 1 := by kernel_rfl
theorem c2 : Try.prog.cellsOf 2 = 1 := by kernel_rfl
theorem c38 : Try.prog.cellsOf 38 = 7 := by kernel_rfl
set_option maxRecDepth 20000 in
theorem open_kop {w : World} {ds : List Value} (h : SlRead.Reads Try.prog w 38 ds) : ∃ x : Ki.KOp, ds = x.cells := by
  obtain ⟨h1, h2⟩ := h.struct Try.underlying38
  rw [c38] at h1
  have a0 : SlRead.Reads Try.prog w 3 ((ds.drop 0).take (Try.prog.cellsOf 3)) := h2 0 _ rfl
  have a1 : SlRead.Reads Try.prog w 32 ((ds.drop 1).take (Try.prog.cellsOf 32)) := h2 1 _ rfl
  have a2 : SlRead.Reads Try.prog w 32 ((ds.drop 3).take (Try.prog.cellsOf 32)) := h2 2 _ rfl
  have a3 : SlRead.Reads Try.prog w 2 ((ds.drop 5).take (Try.prog.cellsOf 2)) := h2 3 _ rfl
  have a4 : SlRead.Reads Try.prog w 2 ((ds.drop 6).take (Try.prog.cellsOf 2)) := h2 4 _ rfl
  rw [c3] at a0
  rw [c32] at a1 a2
  rw [c2] at a3 a4
  obtain ⟨k, e0, -⟩ := a0.int Try.underlying3
  obtain ⟨r, e1⟩ := open_rv a1
  obtain ⟨c, e2⟩ := open_rv a2
  obtain ⟨v, e3, -⟩ := a3.int Try.underlying2
  obtain ⟨t, e4, -⟩ := a4.int Try.underlying2
  refine ⟨⟨k, r, c, v, t⟩, ?_⟩
  match ds, h1 with
  | [d0, d1, d2, d3, d4, d5, d6], _ =>
    simp [KyP.Rv.cells] at e0 e1 e2 e3 e4
    obtain rfl := e0
    obtain ⟨rfl, rfl⟩ := e1
    obtain ⟨rfl, rfl⟩ := e2
    obtain rfl := e3
    obtain rfl := e4
    rfl
theorem open_kops {w : World} {a : Option Addr} {n c : Nat} (R : SlRead.Reads Try.prog w 22 [.slice a n c]) : ∃ l : List Ki.KOp, l.length = n ∧ n ≤ 9223372036854775807 ∧ Sl.Rd (Sl.Old w) 7 Ki.KOp.cells (.slice a n c) l := by
  obtain ⟨a', n', c', l, e, hnc, hc, -, hl, hk, hp⟩ := R.rows (k := 7) Ki.KOp.cells (fun _ => True) Try.underlying22 c38 (by omega) (fun ds h => by obtain ⟨x, h⟩ := open_kop h; exact ⟨x, h, trivial⟩)
  simp only [List.cons.injEq, Value.slice.injEq, and_true] at e
  obtain ⟨rfl, rfl, rfl⟩ := e
  subst hl
  exact ⟨l, rfl, by unfold maxLen at hc; omega, Sl.rd_old hk⟩
theorem walk (w : World) (key : ByteArray) (hkey : key.size ≤ maxLen) (cs1 : Array Value) (R1 : SlRead.Reads Try.prog w 32 cs1.toList) (cs2 : Array Value) (R2 : SlRead.Reads Try.prog w 32 cs2.toList) (d : Int) (_ : (Lit.int .i64 d).wf = true) (a4 : Option Addr) (n4 c4 : Nat) (R4 : SlRead.Reads Try.prog w 22 [.slice a4 n4 c4]) :
    Calls Try.prog 4 #[.string key, .agg cs1, .agg cs2, .int .i64 d, .slice a4 n4 c4] w fun e w' => e = .returned (.bool true) ∧ Below w.heap.size w w' := by
  obtain ⟨cr, h1⟩ := open_rv R1
  obtain ⟨rv, h2⟩ := open_rv R2
  have e1 : cs1 = cr.cells.toArray := by rw [← h1]
  have e2 : cs2 = rv.cells.toArray := by rw [← h2]
  subst e1 e2
  obtain ⟨l, rfl, b, h⟩ := open_kops R4
  refine (Ln.law_spec w key (by unfold maxLen at hkey; omega) cr rv d l b _ h w [] w (Sl.Sat.start w)).mono ?_
  rintro e w' ⟨v, L, rfl, ⟨rfl, rfl⟩, hs⟩
  exact ⟨rfl, hs.below⟩

theorem own : ownKnob Try.prog.godebug = none := by kernel_rfl
theorem laidOut : laidOutB Try.prog = true := by kernel_rfl

set_option maxRecDepth 100000 in
theorem lifted (os : Os) (started : os.Started) (H : Type) (enc : TypeId × Value → H) :
    ReturnsInHanded {} Try.checked os 4 .any (Rows.fnKeyRestoresSpec.pre6 enc Try.prog Try.f4 Rows.fnKeyRestoresRow.domain false) (Rows.fnKeyRestoresSpec.post enc Try.prog Try.f4 false true false false) := by
  refine returnsInHanded_of_change (C := Try.checked) own started (by kernel_rfl) Try.func4
    (ChangeSpec.witness6 (enc := enc) (C := Try.checked) false ⟨#[], #[.string ByteArray.empty, .agg #[.int .i64 0, .int .i64 0], .agg #[.int .i64 0, .int .i64 0], .int .i64 0, .slice none 0 0], []⟩ 8 (by kernel_rfl) (by kernel_rfl) (by kernel_rfl) (by kernel_rfl)) ?_
  intro W base args ds gs before hval0 hW hcnd _
  have hval : ∀ (j : Nat) t v, Try.f4.params[j]? = some t → args[j]? = some v → Value.okWide Try.prog W .any base t v := hval0
  have hW' := hW
  obtain ⟨p, q, hA0, hV, rfl, hfz, hnd⟩ := hW
  have hA : DataW.TrodAll enc Try.prog W 0 (fun _ => true) true Try.f4.params.toList args.toList ds p := hA0
  rw [Try.params4] at hA hval
  obtain ⟨v0, vs0, d0, ds0, p0, q0, hargs, rfl, rfl, h0, r0⟩ := trodAll_cons hA
  obtain ⟨v1, vs1, d1, ds1, p1, q1, rfl, rfl, rfl, h1, r1⟩ := trodAll_cons r0
  obtain ⟨v2, vs2, d2, ds2, p2, q2, rfl, rfl, rfl, h2, r2⟩ := trodAll_cons r1
  obtain ⟨v3, vs3, d3, ds3, p3, q3, rfl, rfl, rfl, h3, r3⟩ := trodAll_cons r2
  obtain ⟨v4, vs4, d4, ds4, p4, q4, rfl, rfl, rfl, h4, r4⟩ := trodAll_cons r3
  obtain ⟨rfl, rfl, rfl⟩ := trodAll_nil r4
  obtain rfl : args = #[v0, v1, v2, v3, v4] := by cases args; simp_all
  obtain ⟨rfl, rfl⟩ := trodVars_none hV
  have k0 := h0
  have lt0 : ∀ x ∈ p0, x.block < W.heap.size := by obtain ⟨m, hm⟩ := k0; exact DataW.trod_lt m _ _ _ hm
  obtain ⟨a0, rfl, -, -, w0⟩ := open_string Try.underlying9 (hval 0 9 v0 rfl rfl) h0
  have k1 := h1
  have lt1 : ∀ x ∈ p1, x.block < W.heap.size := by obtain ⟨m, hm⟩ := k1; exact DataW.trod_lt m _ _ _ hm
  obtain ⟨cs1, rfl, -⟩ := okWide_struct Try.underlying32 (hval 1 32 v1 rfl rfl)
  have R1 : SlRead.Reads Try.prog W 32 cs1.toList := by obtain ⟨fuel, hf⟩ := k1; exact ⟨_, _, _, _, _, _, _, hf⟩
  have k2 := h2
  have lt2 : ∀ x ∈ p2, x.block < W.heap.size := by obtain ⟨m, hm⟩ := k2; exact DataW.trod_lt m _ _ _ hm
  obtain ⟨cs2, rfl, -⟩ := okWide_struct Try.underlying32 (hval 2 32 v2 rfl rfl)
  have R2 : SlRead.Reads Try.prog W 32 cs2.toList := by obtain ⟨fuel, hf⟩ := k2; exact ⟨_, _, _, _, _, _, _, hf⟩
  have k3 := h3
  have lt3 : ∀ x ∈ p3, x.block < W.heap.size := by obtain ⟨m, hm⟩ := k3; exact DataW.trod_lt m _ _ _ hm
  obtain ⟨a3, rfl, -, -, w3⟩ := open_int Try.underlying2 (hval 3 2 v3 rfl rfl) h3
  have k4 := h4
  have lt4 : ∀ x ∈ p4, x.block < W.heap.size := by obtain ⟨m, hm⟩ := k4; exact DataW.trod_lt m _ _ _ hm
  obtain ⟨a4, len4, cap4, rfl⟩ := okWide_slice Try.underlying22 (hval 4 22 v4 rfl rfl)
  have R4 : SlRead.Reads Try.prog W 22 [.slice a4 len4 cap4] := by obtain ⟨fuel, hf⟩ := k4; exact ⟨_, _, _, _, _, _, _, hf⟩
  clear hA0 hval0
  refine (walk W a0 w0 cs1 R1 cs2 R2 a3 w3 a4 len4 cap4 R4).mono fun e W' ⟨he, bel⟩ => ?_
  subst he
  exact ⟨_, rfl, _, _, _, [], _, [], hW', trodAll_mk1 (shut_bool Try.underlying4 _), (trodAll_cons_mk (Below.trod laidOut (by kernel_rfl) (of_decide_eq_true (by kernel_rfl)) k0 bel lt0) (trodAll_cons_mk (Below.trod laidOut (by kernel_rfl) (of_decide_eq_true (by kernel_rfl)) k1 bel lt1) (trodAll_cons_mk (Below.trod laidOut (by kernel_rfl) (of_decide_eq_true (by kernel_rfl)) k2 bel lt2) (trodAll_cons_mk (Below.trod laidOut (by kernel_rfl) (of_decide_eq_true (by kernel_rfl)) k3 bel lt3) (trodAll_cons_mk (Below.trod laidOut (by kernel_rfl) (of_decide_eq_true (by kernel_rfl)) k4 bel lt4) trodAll_mk0))))), rfl, bel.frame _, fun h => by cases h⟩

theorem over : Rows.fnKeyRestoresRow.holds Try.pinned (OpenSpec.ofChange Rows.fnKeyRestoresSpec) :=
  OpenClaim.holds_of_wide 4 Try.f4 rfl rfl rfl rfl rfl rfl rfl ⟨rfl, rfl, rfl, rfl, rfl⟩ rfl rfl rfl rfl rfl (by kernel_rfl) Try.func4 (by kernel_rfl)
    (of_decide_eq_true (by kernel_rfl)) (by unfold Func.isWrapper; first | (rw [if_pos (by decide +kernel)]; kernel_rfl) | (rw [if_neg (by decide +kernel)]; exact ⟨rfl, rfl⟩))
    (fun os started H enc _ => lifted os started H enc)

theorem fnKeyRestores_holds : Rows.FnKeyRestoresSaid := over
#print axioms fnKeyRestores_holds
end Go.Proofs.Ythicijpjpijdjaa.FnKeyRestoresRow
