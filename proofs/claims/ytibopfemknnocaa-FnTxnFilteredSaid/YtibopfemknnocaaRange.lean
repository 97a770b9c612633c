import Derived.Test.YtibopfemknnocaaFits
import Derived.Test.YtibopfemknnocaaSmall
import Derived.Deep.RegionHeld3
import Derived.Test.YtibopfemknnocaaFlow
namespace Go.Proofs.Ytibopfemknnocaa.Range
open Go.RowKit Go.Lib Go.Proofs.Ytibopfemknnocaa.Open Go.Proofs.Ytibopfemknnocaa.Fits

/-- the request that the store is asked with: its four bounds lie behind the others -/
def ReqAt (w : World) (b : Nat) (mm xm mc xc : Int) : Prop :=
  w.cell? ⟨b, 9, none⟩ = some (.int .i64 mm) ∧ w.cell? ⟨b, 10, none⟩ = some (.int .i64 xm) ∧ w.cell? ⟨b, 11, none⟩ = some (.int .i64 mc) ∧ w.cell? ⟨b, 12, none⟩ = some (.int .i64 xc)

def IsRangeReq (mm xm mc xc : Int) (w : World) (e : Ending) (w' : World) : Prop :=
  ∃ b, e = .returned (.pointer (some ⟨b, 0, none⟩)) ∧ w.heap.size ≤ b ∧ b < w'.heap.size ∧ ReqAt w' b mm xm mc xc ∧ Below w.heap.size w w'

set_option linter.unusedSimpArgs false
set_option maxRecDepth 100000 in
set_option maxHeartbeats 4000000 in
theorem range_in (w : World) (v : List Value) (ca : Option Addr) (cn cc : Nat) (mm xm mc xc : Int) (hv : IsReq v ca cn cc mm xm mc xc) :
    Calls Try.prog 32 #[.agg v.toArray] w (IsRangeReq mm xm mc xc w) := by
  obtain ⟨kind, key, e, val, lease, rev, limit, so, st, ko, co, pr, iv, il, ta, tn, tc, ea, en, ec, rfl⟩ := hv
  have kc := kconv
  go_enter Try.func32, Try.ntmps32
  go_wp2_with fail
  refine wp_region_held_drew (S := fun w' => w'.cell? ⟨w.heap.size, 1, none⟩ = some (.string key) ∧ w'.cell? ⟨w.heap.size, 2, none⟩ = some (.string e) ∧ w'.cell? ⟨w.heap.size, 6, none⟩ = some (.int .i64 limit) ∧
      w'.cell? ⟨w.heap.size, 5, none⟩ = some (.int .i64 rev) ∧ w'.cell? ⟨w.heap.size, 7, none⟩ = some (.int .i64 so) ∧ w'.cell? ⟨w.heap.size, 8, none⟩ = some (.int .i64 st) ∧
      w'.cell? ⟨w.heap.size, 15, none⟩ = some (.bool pr) ∧ w'.cell? ⟨w.heap.size, 13, none⟩ = some (.bool ko) ∧ w'.cell? ⟨w.heap.size, 14, none⟩ = some (.bool co) ∧
      w'.cell? ⟨w.heap.size, 9, none⟩ = some (.int .i64 mm) ∧ w'.cell? ⟨w.heap.size, 10, none⟩ = some (.int .i64 xm) ∧ w'.cell? ⟨w.heap.size, 11, none⟩ = some (.int .i64 mc) ∧ w'.cell? ⟨w.heap.size, 12, none⟩ = some (.int .i64 xc) ∧
      (w.heap.size < w'.heap.size ∧ Below w.heap.size w w')) (by kernel_rfl) (by simp; exact Below.drew (Below.new _ _)) (fun hHeld => ?_)
  refine Flow.take (i := 0) (d := (some 3)) (v := ?v0) rfl rfl (by kernel_rfl) (by kernel_rfl) (by kernel_rfl) (fun _ _ _ h => h) (by rfl) ?y0 hHeld ?r0
  case y0 => (intro w' hS; obtain ⟨c0, c1, c2, c3, c4, c5, c6, c7, c8, c9, c10, c11, c12, c13⟩ := hS; go_simp; with_reducible rfl)
  case r0 =>
  simp only [Act.put, List.setIfInBounds_toArray, List.set_cons_zero, List.set_cons_succ]
  refine Flow.take (i := 1) (d := (some 4)) (v := ?v1) rfl rfl (by kernel_rfl) (by kernel_rfl) (by kernel_rfl) (fun _ _ _ h => h) (by rfl) ?y1 hHeld ?r1
  case y1 => (intro w' hS; obtain ⟨c0, c1, c2, c3, c4, c5, c6, c7, c8, c9, c10, c11, c12, c13⟩ := hS; go_simp; with_reducible rfl)
  case r1 =>
  simp only [Act.put, List.setIfInBounds_toArray, List.set_cons_zero, List.set_cons_succ]
  refine Flow.take (i := 3) (d := (some 6)) (v := ?v3) rfl rfl (by kernel_rfl) (by kernel_rfl) (by kernel_rfl) (fun _ _ _ h => h) (by rfl) ?y3 hHeld ?r3
  case y3 => (intro w' hS; obtain ⟨c0, c1, c2, c3, c4, c5, c6, c7, c8, c9, c10, c11, c12, c13⟩ := hS; go_simp; with_reducible rfl)
  case r3 =>
  simp only [Act.put, List.setIfInBounds_toArray, List.set_cons_zero, List.set_cons_succ]
  refine Flow.take (i := 4) (d := (some 7)) (v := ?v4) rfl rfl (by kernel_rfl) (by kernel_rfl) (by kernel_rfl) (fun _ _ _ h => h) (by rfl) ?y4 hHeld ?r4
  case y4 => (intro w' hS; obtain ⟨c0, c1, c2, c3, c4, c5, c6, c7, c8, c9, c10, c11, c12, c13⟩ := hS; go_simp; with_reducible rfl)
  case r4 =>
  simp only [Act.put, List.setIfInBounds_toArray, List.set_cons_zero, List.set_cons_succ]
  refine Flow.take (i := 6) (d := (some 9)) (v := ?v6) rfl rfl (by kernel_rfl) (by kernel_rfl) (by kernel_rfl) (fun _ _ _ h => h) (by rfl) ?y6 hHeld ?r6
  case y6 => (intro w' hS; obtain ⟨c0, c1, c2, c3, c4, c5, c6, c7, c8, c9, c10, c11, c12, c13⟩ := hS; go_simp; with_reducible rfl)
  case r6 =>
  simp only [Act.put, List.setIfInBounds_toArray, List.set_cons_zero, List.set_cons_succ]
  refine Flow.take (i := 7) (d := (some 10)) (v := ?v7) rfl rfl (by kernel_rfl) (by kernel_rfl) (by kernel_rfl) (fun _ _ _ h => h) (by rfl) ?y7 hHeld ?r7
  case y7 => (intro w' hS; obtain ⟨c0, c1, c2, c3, c4, c5, c6, c7, c8, c9, c10, c11, c12, c13⟩ := hS; go_simp; with_reducible rfl)
  case r7 =>
  simp only [Act.put, List.setIfInBounds_toArray, List.set_cons_zero, List.set_cons_succ]
  refine Flow.take (i := 8) (d := (some 11)) (v := ?v8) rfl rfl (by kernel_rfl) (by kernel_rfl) (by kernel_rfl) (fun _ _ _ h => h) (by rfl) ?y8 hHeld ?r8
  case y8 => (intro w' hS; obtain ⟨c0, c1, c2, c3, c4, c5, c6, c7, c8, c9, c10, c11, c12, c13⟩ := hS; go_simp; with_reducible rfl)
  case r8 =>
  simp only [Act.put, List.setIfInBounds_toArray, List.set_cons_zero, List.set_cons_succ]
  refine Flow.take (i := 9) (d := (some 12)) (v := ?v9) rfl rfl (by kernel_rfl) (by kernel_rfl) (by kernel_rfl) (fun _ _ _ h => h) (by rfl) ?y9 hHeld ?r9
  case y9 => (intro w' hS; obtain ⟨c0, c1, c2, c3, c4, c5, c6, c7, c8, c9, c10, c11, c12, c13⟩ := hS; go_simp; with_reducible rfl)
  case r9 =>
  simp only [Act.put, List.setIfInBounds_toArray, List.set_cons_zero, List.set_cons_succ]
  refine Flow.take (i := 10) (d := (some 13)) (v := ?v10) rfl rfl (by kernel_rfl) (by kernel_rfl) (by kernel_rfl) (fun _ _ _ h => h) (by rfl) ?y10 hHeld ?r10
  case y10 => (intro w' hS; obtain ⟨c0, c1, c2, c3, c4, c5, c6, c7, c8, c9, c10, c11, c12, c13⟩ := hS; go_simp; with_reducible rfl)
  case r10 =>
  simp only [Act.put, List.setIfInBounds_toArray, List.set_cons_zero, List.set_cons_succ]
  refine Flow.take (i := 11) (d := (some 14)) (v := ?v11) rfl rfl (by kernel_rfl) (by kernel_rfl) (by kernel_rfl) (fun _ _ _ h => h) (by rfl) ?y11 hHeld ?r11
  case y11 => (intro w' hS; obtain ⟨c0, c1, c2, c3, c4, c5, c6, c7, c8, c9, c10, c11, c12, c13⟩ := hS; go_simp; with_reducible rfl)
  case r11 =>
  simp only [Act.put, List.setIfInBounds_toArray, List.set_cons_zero, List.set_cons_succ]
  refine Flow.take (i := 13) (d := (some 16)) (v := ?v13) rfl rfl (by kernel_rfl) (by kernel_rfl) (by kernel_rfl) (fun _ _ _ h => h) (by rfl) ?y13 hHeld ?r13
  case y13 => (intro w' hS; obtain ⟨c0, c1, c2, c3, c4, c5, c6, c7, c8, c9, c10, c11, c12, c13⟩ := hS; go_simp; with_reducible rfl)
  case r13 =>
  simp only [Act.put, List.setIfInBounds_toArray, List.set_cons_zero, List.set_cons_succ]
  refine Flow.take (i := 14) (d := (some 17)) (v := ?v14) rfl rfl (by kernel_rfl) (by kernel_rfl) (by kernel_rfl) (fun _ _ _ h => h) (by rfl) ?y14 hHeld ?r14
  case y14 => (intro w' hS; obtain ⟨c0, c1, c2, c3, c4, c5, c6, c7, c8, c9, c10, c11, c12, c13⟩ := hS; go_simp; with_reducible rfl)
  case r14 =>
  simp only [Act.put, List.setIfInBounds_toArray, List.set_cons_zero, List.set_cons_succ]
  refine Flow.take (i := 16) (d := (some 19)) (v := ?v16) rfl rfl (by kernel_rfl) (by kernel_rfl) (by kernel_rfl) (fun _ _ _ h => h) (by rfl) ?y16 hHeld ?r16
  case y16 => (intro w' hS; obtain ⟨c0, c1, c2, c3, c4, c5, c6, c7, c8, c9, c10, c11, c12, c13⟩ := hS; go_simp; with_reducible rfl)
  case r16 =>
  simp only [Act.put, List.setIfInBounds_toArray, List.set_cons_zero, List.set_cons_succ]
  refine Flow.take (i := 17) (d := (some 20)) (v := ?v17) rfl rfl (by kernel_rfl) (by kernel_rfl) (by kernel_rfl) (fun _ _ _ h => h) (by rfl) ?y17 hHeld ?r17
  case y17 => (intro w' hS; obtain ⟨c0, c1, c2, c3, c4, c5, c6, c7, c8, c9, c10, c11, c12, c13⟩ := hS; go_simp; with_reducible rfl)
  case r17 =>
  simp only [Act.put, List.setIfInBounds_toArray, List.set_cons_zero, List.set_cons_succ]
  refine Flow.take (i := 18) (d := (some 21)) (v := ?v18) rfl rfl (by kernel_rfl) (by kernel_rfl) (by kernel_rfl) (fun _ _ _ h => h) (by rfl) ?y18 hHeld ?r18
  case y18 => (intro w' hS; obtain ⟨c0, c1, c2, c3, c4, c5, c6, c7, c8, c9, c10, c11, c12, c13⟩ := hS; go_simp; with_reducible rfl)
  case r18 =>
  simp only [Act.put, List.setIfInBounds_toArray, List.set_cons_zero, List.set_cons_succ]
  refine Flow.take (i := 19) (d := (some 22)) (v := ?v19) rfl rfl (by kernel_rfl) (by kernel_rfl) (by kernel_rfl) (fun _ _ _ h => h) (by rfl) ?y19 hHeld ?r19
  case y19 => (intro w' hS; obtain ⟨c0, c1, c2, c3, c4, c5, c6, c7, c8, c9, c10, c11, c12, c13⟩ := hS; go_simp; with_reducible rfl)
  case r19 =>
  simp only [Act.put, List.setIfInBounds_toArray, List.set_cons_zero, List.set_cons_succ]
  refine Flow.take (i := 20) (d := (some 23)) (v := ?v20) rfl rfl (by kernel_rfl) (by kernel_rfl) (by kernel_rfl) (fun _ _ _ h => h) (by rfl) ?y20 hHeld ?r20
  case y20 => (intro w' hS; obtain ⟨c0, c1, c2, c3, c4, c5, c6, c7, c8, c9, c10, c11, c12, c13⟩ := hS; go_simp; with_reducible rfl)
  case r20 =>
  simp only [Act.put, List.setIfInBounds_toArray, List.set_cons_zero, List.set_cons_succ]
  refine Flow.take (i := 21) (d := (some 24)) (v := ?v21) rfl rfl (by kernel_rfl) (by kernel_rfl) (by kernel_rfl) (fun _ _ _ h => h) (by rfl) ?y21 hHeld ?r21
  case y21 => (intro w' hS; obtain ⟨c0, c1, c2, c3, c4, c5, c6, c7, c8, c9, c10, c11, c12, c13⟩ := hS; go_simp; with_reducible rfl)
  case r21 =>
  simp only [Act.put, List.setIfInBounds_toArray, List.set_cons_zero, List.set_cons_succ]
  refine Flow.take (i := 22) (d := (some 25)) (v := ?v22) rfl rfl (by kernel_rfl) (by kernel_rfl) (by kernel_rfl) (fun _ _ _ h => h) (by rfl) ?y22 hHeld ?r22
  case y22 => (intro w' hS; obtain ⟨c0, c1, c2, c3, c4, c5, c6, c7, c8, c9, c10, c11, c12, c13⟩ := hS; go_simp; with_reducible rfl)
  case r22 =>
  simp only [Act.put, List.setIfInBounds_toArray, List.set_cons_zero, List.set_cons_succ]
  refine Flow.take (i := 23) (d := (some 26)) (v := ?v23) rfl rfl (by kernel_rfl) (by kernel_rfl) (by kernel_rfl) (fun _ _ _ h => h) (by rfl) ?y23 hHeld ?r23
  case y23 => (intro w' hS; obtain ⟨c0, c1, c2, c3, c4, c5, c6, c7, c8, c9, c10, c11, c12, c13⟩ := hS; go_simp; with_reducible rfl)
  case r23 =>
  simp only [Act.put, List.setIfInBounds_toArray, List.set_cons_zero, List.set_cons_succ]
  refine Flow.take (i := 24) (d := (some 27)) (v := ?v24) rfl rfl (by kernel_rfl) (by kernel_rfl) (by kernel_rfl) (fun _ _ _ h => h) (by rfl) ?y24 hHeld ?r24
  case y24 => (intro w' hS; obtain ⟨c0, c1, c2, c3, c4, c5, c6, c7, c8, c9, c10, c11, c12, c13⟩ := hS; go_simp; with_reducible rfl)
  case r24 =>
  simp only [Act.put, List.setIfInBounds_toArray, List.set_cons_zero, List.set_cons_succ]
  refine Flow.take (i := 25) (d := (some 28)) (v := ?v25) rfl rfl (by kernel_rfl) (by kernel_rfl) (by kernel_rfl) (fun _ _ _ h => h) (by rfl) ?y25 hHeld ?r25
  case y25 => (intro w' hS; obtain ⟨c0, c1, c2, c3, c4, c5, c6, c7, c8, c9, c10, c11, c12, c13⟩ := hS; go_simp; with_reducible rfl)
  case r25 =>
  simp only [Act.put, List.setIfInBounds_toArray, List.set_cons_zero, List.set_cons_succ]
  refine Flow.take (i := 26) (d := (some 29)) (v := ?v26) rfl rfl (by kernel_rfl) (by kernel_rfl) (by kernel_rfl) (fun _ _ _ h => h) (by rfl) ?y26 hHeld ?r26
  case y26 => (intro w' hS; obtain ⟨c0, c1, c2, c3, c4, c5, c6, c7, c8, c9, c10, c11, c12, c13⟩ := hS; go_simp; with_reducible rfl)
  case r26 =>
  simp only [Act.put, List.setIfInBounds_toArray, List.set_cons_zero, List.set_cons_succ]
  refine Flow.take (i := 27) (d := (some 30)) (v := ?v27) rfl rfl (by kernel_rfl) (by kernel_rfl) (by kernel_rfl) (fun _ _ _ h => h) (by rfl) ?y27 hHeld ?r27
  case y27 => (intro w' hS; obtain ⟨c0, c1, c2, c3, c4, c5, c6, c7, c8, c9, c10, c11, c12, c13⟩ := hS; go_simp; with_reducible rfl)
  case r27 =>
  simp only [Act.put, List.setIfInBounds_toArray, List.set_cons_zero, List.set_cons_succ]
  refine Flow.take (i := 28) (d := (some 31)) (v := ?v28) rfl rfl (by kernel_rfl) (by kernel_rfl) (by kernel_rfl) (fun _ _ _ h => h) (by rfl) ?y28 hHeld ?r28
  case y28 => (intro w' hS; obtain ⟨c0, c1, c2, c3, c4, c5, c6, c7, c8, c9, c10, c11, c12, c13⟩ := hS; go_simp; with_reducible rfl)
  case r28 =>
  simp only [Act.put, List.setIfInBounds_toArray, List.set_cons_zero, List.set_cons_succ]
  refine Flow.take (i := 29) (d := (some 32)) (v := ?v29) rfl rfl (by kernel_rfl) (by kernel_rfl) (by kernel_rfl) (fun _ _ _ h => h) (by rfl) ?y29 hHeld ?r29
  case y29 => (intro w' hS; obtain ⟨c0, c1, c2, c3, c4, c5, c6, c7, c8, c9, c10, c11, c12, c13⟩ := hS; go_simp; with_reducible rfl)
  case r29 =>
  simp only [Act.put, List.setIfInBounds_toArray, List.set_cons_zero, List.set_cons_succ]
  have keep : ∀ {a b : World}, (a.cell? ⟨w.heap.size, 1, none⟩ = some (.string key) ∧ a.cell? ⟨w.heap.size, 2, none⟩ = some (.string e) ∧ a.cell? ⟨w.heap.size, 6, none⟩ = some (.int .i64 limit) ∧
      a.cell? ⟨w.heap.size, 5, none⟩ = some (.int .i64 rev) ∧ a.cell? ⟨w.heap.size, 7, none⟩ = some (.int .i64 so) ∧ a.cell? ⟨w.heap.size, 8, none⟩ = some (.int .i64 st) ∧
      a.cell? ⟨w.heap.size, 15, none⟩ = some (.bool pr) ∧ a.cell? ⟨w.heap.size, 13, none⟩ = some (.bool ko) ∧ a.cell? ⟨w.heap.size, 14, none⟩ = some (.bool co) ∧
      a.cell? ⟨w.heap.size, 9, none⟩ = some (.int .i64 mm) ∧ a.cell? ⟨w.heap.size, 10, none⟩ = some (.int .i64 xm) ∧ a.cell? ⟨w.heap.size, 11, none⟩ = some (.int .i64 mc) ∧ a.cell? ⟨w.heap.size, 12, none⟩ = some (.int .i64 xc) ∧
      (w.heap.size < a.heap.size ∧ Below w.heap.size w a)) → Below a.heap.size a b → (b.cell? ⟨w.heap.size, 1, none⟩ = some (.string key) ∧ b.cell? ⟨w.heap.size, 2, none⟩ = some (.string e) ∧ b.cell? ⟨w.heap.size, 6, none⟩ = some (.int .i64 limit) ∧
      b.cell? ⟨w.heap.size, 5, none⟩ = some (.int .i64 rev) ∧ b.cell? ⟨w.heap.size, 7, none⟩ = some (.int .i64 so) ∧ b.cell? ⟨w.heap.size, 8, none⟩ = some (.int .i64 st) ∧
      b.cell? ⟨w.heap.size, 15, none⟩ = some (.bool pr) ∧ b.cell? ⟨w.heap.size, 13, none⟩ = some (.bool ko) ∧ b.cell? ⟨w.heap.size, 14, none⟩ = some (.bool co) ∧
      b.cell? ⟨w.heap.size, 9, none⟩ = some (.int .i64 mm) ∧ b.cell? ⟨w.heap.size, 10, none⟩ = some (.int .i64 xm) ∧ b.cell? ⟨w.heap.size, 11, none⟩ = some (.int .i64 mc) ∧ b.cell? ⟨w.heap.size, 12, none⟩ = some (.int .i64 xc) ∧
      (w.heap.size < b.heap.size ∧ Below w.heap.size w b)) := by
    rintro a b ⟨c0, c1, c2, c3, c4, c5, c6, c7, c8, c9, c10, c11, c12, c13, c14⟩ hb
    obtain ⟨hcc, hff⟩ := bcell hb
    have hz := hb.size
    refine ⟨(hcc _ _ c13).trans c0, (hcc _ _ c13).trans c1, (hcc _ _ c13).trans c2, (hcc _ _ c13).trans c3, (hcc _ _ c13).trans c4, (hcc _ _ c13).trans c5, (hcc _ _ c13).trans c6, (hcc _ _ c13).trans c7, (hcc _ _ c13).trans c8, (hcc _ _ c13).trans c9, (hcc _ _ c13).trans c10, (hcc _ _ c13).trans c11, (hcc _ _ c13).trans c12, by omega, c14.more hb⟩
  refine Flow.flow (f0 := 0) [(2, some 5, []), (5, some 8, []), (12, some 15, [(5, some 8)]), (15, some 18, [(12, some 15)]), (30, some 33, [(2, some 5), (5, some 8), (12, some 15), (15, some 18)]), (31, some 34, [(30, some 33)]), (32, some 2, [(31, some 34), (15, some 18), (2, some 5), (5, some 8), (12, some 15), (30, some 33)])] _
    (fun a b => Below a.heap.size a b) (fun i v w' => (i = 2 → ∃ a n c, v = .slice a n c) ∧ (i = 5 → ∃ a n c, v = .slice a n c) ∧ (i = 12 → ∃ n, v = .int .i32 n) ∧ (i = 15 → ∃ n, v = .int .i32 n) ∧
      (i = 30 → ∃ a n c a' n' c' k k', v = .agg #[.slice a n c, .slice a' n' c', .int .i64 limit, .int .i64 rev, .int .i32 k, .int .i32 k', .bool pr, .bool ko, .bool co, .int .i64 mm, .int .i64 xm, .int .i64 mc, .int .i64 xc]) ∧
      (i = 31 → ∃ b, v = .pointer (some ⟨b, 0, none⟩) ∧ w.heap.size ≤ b ∧ b < w'.heap.size ∧ ReqAt w' b mm xm mc xc) ∧
      (i = 32 → ∃ b, v = .pointer (some ⟨b, 0, none⟩) ∧ w.heap.size ≤ b ∧ b < w'.heap.size ∧ ReqAt w' b mm xm mc xc)) (by kernel_rfl) hHeld ?_ ?_ ?_
  · rintro j v w1 w2 ⟨h1, h2, h3, h4, h5, h6, h7⟩ hb
    obtain ⟨hcc, hff⟩ := bcell hb
    have hz := hb.size
    have hp : ∀ {b : Nat}, b < w1.heap.size → ReqAt w1 b mm xm mc xc → ReqAt w2 b mm xm mc xc := fun hl ⟨a1, a2, a3, a4⟩ => ⟨(hcc _ _ hl).trans a1, (hcc _ _ hl).trans a2, (hcc _ _ hl).trans a3, (hcc _ _ hl).trans a4⟩
    refine ⟨h1, h2, h3, h4, h5, fun hj => ?_, fun hj => ?_⟩
    · obtain ⟨b, rfl, hb1, hb2, hb3⟩ := h6 hj
      exact ⟨b, rfl, hb1, by omega, hp hb2 hb3⟩
    · obtain ⟨b, rfl, hb1, hb2, hb3⟩ := h7 hj
      exact ⟨b, rfl, hb1, by omega, hp hb2 hb3⟩
  · refine ⟨?_, ?_, ?_, ?_, ?_, ?_, ?_, True.intro⟩
    · intro ν w1 hS hU K hK
      refine wpOp_step rfl (fun K' hK' => ?_)
      simp only [Flow.canonL, List.foldl, Act.put, List.setIfInBounds_toArray, List.set_cons_zero, List.set_cons_succ]
      clear hHeld
      go_simp
      refine hK' _ _ (hK _ _ ⟨rfl, keep hS (Vr.bytesWorld_below _ _ _), Vr.bytesWorld_below _ _ _, ?_⟩)
      simp [Flow.vAt]
    · intro ν w1 hS hU K hK
      refine wpOp_step rfl (fun K' hK' => ?_)
      simp only [Flow.canonL, List.foldl, Act.put, List.setIfInBounds_toArray, List.set_cons_zero, List.set_cons_succ]
      clear hHeld
      go_simp
      refine (bytes_of _ _).mono ?_
      rintro e' w2 ⟨a, c, rfl, hr, hb, hx⟩
      refine hK' _ _ (hK _ _ ⟨rfl, keep hS hb, hb, ?_⟩)
      simp [Flow.vAt]
    · intro ν w1 hS hU K hK
      refine wpOp_step rfl (fun K' hK' => ?_)
      simp only [Flow.canonL, List.foldl, Act.put, List.setIfInBounds_toArray, List.set_cons_zero, List.set_cons_succ]
      clear hHeld
      go_simp
      refine (order _ _).mono ?_
      rintro e' w2 ⟨rfl, rfl⟩
      refine hK' _ _ (hK _ _ ⟨rfl, hS, Below.refl _ _, ?_⟩)
      simp [Flow.vAt]
    · intro ν w1 hS hU K hK
      refine wpOp_step rfl (fun K' hK' => ?_)
      simp only [Flow.canonL, List.foldl, Act.put, List.setIfInBounds_toArray, List.set_cons_zero, List.set_cons_succ]
      clear hHeld
      go_simp
      refine (order _ _).mono ?_
      rintro e' w2 ⟨rfl, rfl⟩
      refine hK' _ _ (hK _ _ ⟨rfl, hS, Below.refl _ _, ?_⟩)
      simp [Flow.vAt]
    · intro ν w1 hS hU K hK
      obtain ⟨⟨u0, -⟩, ⟨-, u1, -⟩, ⟨-, -, u2, -⟩, ⟨-, -, -, u3, -⟩, -⟩ := hU
      obtain ⟨a, n, c, h0⟩ := u0 rfl
      obtain ⟨a', n', c', h1⟩ := u1 rfl
      obtain ⟨k, h2⟩ := u2 rfl
      obtain ⟨k', h3⟩ := u3 rfl
      refine wpOp_step rfl (fun K' hK' => ?_)
      simp only [Flow.canonL, List.foldl, Act.put, List.setIfInBounds_toArray, List.set_cons_zero, List.set_cons_succ]
      clear hHeld u0 u1 u2 u3
      go_simp
      refine hK' _ _ (hK _ _ ⟨by simp [Flow.canonL, Act.put, Flow.vAt, h0, h1, h2, h3], hS, Below.refl _ _, ?_⟩)
      simp [Flow.vAt]
    · intro ν w1 hS hU K hK
      obtain ⟨⟨-, -, -, -, u0, -⟩, -⟩ := hU
      obtain ⟨a, n, c, a', n', c', k, k', h0⟩ := u0 rfl
      refine wpOp_step rfl (fun K' hK' => ?_)
      simp only [Flow.canonL, List.foldl, Act.put, List.setIfInBounds_toArray, List.set_cons_zero, List.set_cons_succ]
      clear hHeld u0
      go_simp
      refine hK' _ _ (hK _ _ ⟨by simp [Flow.canonL, Act.put, Flow.vAt, h0], keep hS (Below.new _ _), Below.new _ _, ?_⟩)
      have hz := hS.2.2.2.2.2.2.2.2.2.2.2.2.2.1
      simp [Flow.vAt, ReqAt]
      omega
    · intro ν w1 hS hU K hK
      obtain ⟨⟨-, -, -, -, -, u0, -⟩, -⟩ := hU
      obtain ⟨b, h0, h1, h2, h3⟩ := u0 rfl
      refine wpOp_step rfl (fun K' hK' => ?_)
      simp only [Flow.canonL, List.foldl, Act.put, List.setIfInBounds_toArray, List.set_cons_zero, List.set_cons_succ]
      clear hHeld u0
      go_simp
      refine hK' _ _ (hK _ _ ⟨by simp [Flow.canonL, Act.put, Flow.vAt, h0], hS, Below.refl _ _, ?_⟩)
      simp [Flow.vAt]
      exact ⟨h1, h2, h3⟩
  · intro ν w' hS hU
    refine Flow.doneB (by kernel_rfl) ?_
    obtain ⟨u2, u5, u12, u15, u30, u31, u32, -⟩ := hU
    obtain ⟨b, h0, h1, h2, h3⟩ := u32.2.2.2.2.2.2 rfl
    have hb := hS.2.2.2.2.2.2.2.2.2.2.2.2.2.2
    clear hHeld u2 u5 u12 u15 u30 u31 u32 hS keep
    simp only [List.map, Flow.canonL, List.foldl, Act.put, List.setIfInBounds_toArray, List.set_cons_zero, List.set_cons_succ]
    rw [h0]
    have HX : Hid (IsRangeReq mm xm mc xc w (.returned (.pointer (some ⟨b, 0, none⟩))) w') := ⟨b, rfl, h1, h2, h3, hb⟩
    clear h0 h1 h2 h3 hb
    go_wp2
    go_ret
    exact HX.out
end Go.Proofs.Ytibopfemknnocaa.Range
