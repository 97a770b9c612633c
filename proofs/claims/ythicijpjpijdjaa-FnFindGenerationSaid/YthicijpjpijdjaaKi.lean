import Derived.Test.YthicijpjpijdjaaKh
namespace Go.Proofs.Ythicijpjpijdjaa.Ki
open Go.RowKit Go.Proofs.Ythicijpjpijdjaa Go.Proofs.Ythicijpjpijdjaa.Sl Go.Proofs.Ythicijpjpijdjaa.KyP Go.Proofs.Ythicijpjpijdjaa.Ka Go.Proofs.Ythicijpjpijdjaa.Kb Go.Proofs.Ythicijpjpijdjaa.Kc Go.Proofs.Ythicijpjpijdjaa.Kd Go.Proofs.Ythicijpjpijdjaa.Ke Go.Proofs.Ythicijpjpijdjaa.Kf Go.Proofs.Ythicijpjpijdjaa.Kg Go.Proofs.Ythicijpjpijdjaa.Kh
set_option linter.unusedVariables false
set_option linter.unusedSimpArgs false
set_option linter.unusedSectionVars false


structure KOp where
  k : Int
  r : Rv
  c : Rv
  v : Int
  at_ : Int
def KOp.cells (o : KOp) : List Value := [.int .i64 o.k, .int .i64 o.r.m, .int .i64 o.r.s, .int .i64 o.c.m, .int .i64 o.c.s, .int .i64 o.v, .int .i64 o.at_]
theorem KOp.len (o : KOp) : o.cells.length = 7 := rfl
/-- an answer, but for the index behind it -/
structure KA where
  ok : Bool
  mod : Rv
  cre : Rv
  ver : Int
  revs : List Rv
def KA0 : KA := ⟨false, Rv0, Rv0, 0, []⟩
def KA.val (a : KA) (vr : Value) : Value := .agg #[.bool a.ok, .int .i64 a.mod.m, .int .i64 a.mod.s, .int .i64 a.cre.m, .int .i64 a.cre.s, .int .i64 a.ver, vr, .int .i64 0, .int .i64 0, .slice none 0 0]
/-- what an operation does to the changes, its answer, and whether it is let in -/
def kdo (l : List Vn) (o : KOp) : List Vn × KA × Bool :=
  if o.k = 1 then (if less (modi l) o.r then (l ++ [putV l o.r], { KA0 with ok := true }, true) else (l, KA0, false))
  else if o.k = 2 then (match lives l, l[l.length - 1]? with
    | true, some x => if less (modi l) o.r then (l ++ [endV x o.r], { KA0 with ok := true }, true) else (l, KA0, false)
    | _, _ => (l, KA0, true))
  else if o.k = 5 then (l, ⟨(holdsV l o.at_).isSome, ((holdsV l o.at_).getD Vn0).r, ((holdsV l o.at_).getD Vn0).c, ((holdsV l o.at_).getD Vn0).v, []⟩, true)
  else if o.k = 6 then (l, { KA0 with revs := sinceV l o.at_ l.length }, true)
  else if o.k = 7 then (comp l o.at_ l.length, { KA0 with revs := keptV l o.at_ true l.length }, true)
  else if o.k = 8 then (l, { KA0 with revs := keptV l o.at_ false l.length }, true)
  else (l, KA0, true)
/-- the changes behind an operation: as they were, or new ones -/
def KeyL (va : Value) (l : List Vn) (va2 : Value) (l2 : List Vn) (E : HProp) : Prop := E = Own 47 6 va2 l2.length (flatOf Vn.cells l2) ∨ (E = Pure True ∧ va2 = va ∧ l2 = l)
theorem kdo_rise {l : List Vn} {o : KOp} (h : Rise l) : Rise (kdo l o).1 := by
  unfold kdo
  split
  · split
    · refine rise_snoc h (.inr ?_)
      rename_i h2
      unfold putV; split
      · split <;> exact h2
      · exact h2
    · exact h
  split
  · split
    · split
      · rename_i h2
        exact rise_snoc h (.inr h2)
      · exact h
    · exact h
  split
  · exact h
  split
  · exact h
  split
  · exact rise_comp h _
  split <;> exact h
theorem rise_nil : Rise [] := List.Pairwise.nil

end Go.Proofs.Ythicijpjpijdjaa.Ki
