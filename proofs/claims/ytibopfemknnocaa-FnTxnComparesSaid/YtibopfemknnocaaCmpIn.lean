import Derived.Test.YtibopfemknnocaaCmp
import Derived.Test.YtibopfemknnocaaSmall
import Derived.Test.YtibopfemknnocaaFlow
namespace Go.Proofs.Ytibopfemknnocaa.CmpIn
open Go.RowKit Go.Lib Go.Proofs.Ytibopfemknnocaa.Open Go.Proofs.Ytibopfemknnocaa.Kept Go.Proofs.Ytibopfemknnocaa.Cmp

/-- the union of a compare -/
def UnionAt (t n : Int) (x : List UInt8) (U : Value) (w : World) : Prop :=
  (t = 0 ∧ ∃ ub, U = .iface 99 (.pointer (some ⟨ub, 0, none⟩)) ∧ w.cell? ⟨ub, 0, none⟩ = some (.int .i64 n)) ∨ (t = 1 ∧ ∃ ub, U = .iface 102 (.pointer (some ⟨ub, 0, none⟩)) ∧ w.cell? ⟨ub, 0, none⟩ = some (.int .i64 n)) ∨
  (t = 2 ∧ ∃ ub, U = .iface 105 (.pointer (some ⟨ub, 0, none⟩)) ∧ w.cell? ⟨ub, 0, none⟩ = some (.int .i64 n)) ∨ (t = 4 ∧ ∃ ub, U = .iface 111 (.pointer (some ⟨ub, 0, none⟩)) ∧ w.cell? ⟨ub, 0, none⟩ = some (.int .i64 n)) ∨
  (t = 3 ∧ ∃ ub a c, U = .iface 108 (.pointer (some ⟨ub, 0, none⟩)) ∧ w.cell? ⟨ub, 0, none⟩ = some (.slice a x.length c) ∧ Vr.RowAt w a x)
def CmpRet (t r n : Int) (x : List UInt8) (w : World) (e : Ending) (w' : World) : Prop :=
  ∃ b K U E, e = .returned (.pointer (some ⟨b, 0, none⟩)) ∧ w'.heap[b]? = some (.cells #[.int .i32 r, .int .i32 t, K, U, E] 98 (0, 0)) ∧ UnionAt t n x U w' ∧ w.heap.size ≤ b ∧ Below w.heap.size w w'

theorem order_id (w : World) (n : Int) (h0 : 0 ≤ n) (h1 : n ≤ 4) : Calls Try.prog 30 #[.int .i64 n] w fun e w' => e = .returned (.int .i32 n) ∧ w = w' := by
  have := Range.order w n
  have e : Range.i32of n = n := by unfold Range.i32of; rw [if_neg (by omega)]
  rwa [e] at this

set_option linter.unusedSimpArgs false
set_option maxRecDepth 100000 in
set_option maxHeartbeats 4000000 in
theorem cmp_in (w : World) (t r n : Int) (key en x : ByteArray) (ht0 : 0 ≤ t) (ht1 : t ≤ 4) (hr0 : 0 ≤ r) (hr1 : r ≤ 4) :
    Calls Try.prog 39 #[.agg #[.int .i64 t, .int .i64 r, .string key, .string en, .int .i64 n, .string x, .bool false]] w (CmpRet t r n x.data.toList w) := by
  have HT : Box _ := ⟨fun w => order_id w t ht0 ht1⟩
  have HR : Box _ := ⟨fun w => order_id w r hr0 hr1⟩
  have HB0 : Box _ := ⟨Below.new w (.cells #[.int .i64 t, .int .i64 r, .string key, .string en, .int .i64 n, .string x, .bool false] 38)⟩
  have HTC : Box _ := ⟨(by omega : t = 0 ∨ t = 1 ∨ t = 2 ∨ t = 3 ∨ t = 4)⟩
  clear ht0 ht1 hr0 hr1
  go_enter Try.func39, Try.ntmps39
  go_wp2_with fail
  refine Flow.start (by kernel_rfl) (fun hHeld => ?_)
  refine Flow.take (i := 0) (d := (some 4)) (v := ?v0) rfl rfl (by kernel_rfl) (by kernel_rfl) (by kernel_rfl) (fun _ _ _ h => h) (by rfl) ?y0 hHeld ?r0
  case y0 => (intro w' hS; obtain ⟨hcc, hff⟩ := bcell hS; go_simp; with_reducible rfl)
  case r0 =>
  simp only [Act.put, List.setIfInBounds_toArray, List.set_cons_zero, List.set_cons_succ]
  refine Flow.take (i := 1) (d := (some 5)) (v := ?v1) rfl rfl (by kernel_rfl) (by kernel_rfl) (by kernel_rfl) (fun _ _ _ h => h) (by rfl) ?y1 hHeld ?r1
  case y1 => (intro w' hS; obtain ⟨hcc, hff⟩ := bcell hS; go_simp; with_reducible rfl)
  case r1 =>
  simp only [Act.put, List.setIfInBounds_toArray, List.set_cons_zero, List.set_cons_succ]
  refine Flow.take (i := 3) (d := (some 7)) (v := ?v3) rfl rfl (by kernel_rfl) (by kernel_rfl) (by kernel_rfl) (fun _ _ _ h => h) (by rfl) ?y3 hHeld ?r3
  case y3 => (intro w' hS; obtain ⟨hcc, hff⟩ := bcell hS; go_simp; with_reducible rfl)
  case r3 =>
  simp only [Act.put, List.setIfInBounds_toArray, List.set_cons_zero, List.set_cons_succ]
  refine Flow.take (i := 4) (d := (some 8)) (v := ?v4) rfl rfl (by kernel_rfl) (by kernel_rfl) (by kernel_rfl) (fun _ _ _ h => h) (by rfl) ?y4 hHeld ?r4
  case y4 => (intro w' hS; obtain ⟨hcc, hff⟩ := bcell hS; go_simp; with_reducible rfl)
  case r4 =>
  simp only [Act.put, List.setIfInBounds_toArray, List.set_cons_zero, List.set_cons_succ]
  refine Flow.take (i := 6) (d := (some 10)) (v := ?v6) rfl rfl (by kernel_rfl) (by kernel_rfl) (by kernel_rfl) (fun _ _ _ h => h) (by rfl) ?y6 hHeld ?r6
  case y6 => (intro w' hS; obtain ⟨hcc, hff⟩ := bcell hS; go_simp; with_reducible rfl)
  case r6 =>
  simp only [Act.put, List.setIfInBounds_toArray, List.set_cons_zero, List.set_cons_succ]
  refine Flow.take (i := 7) (d := (some 11)) (v := ?v7) rfl rfl (by kernel_rfl) (by kernel_rfl) (by kernel_rfl) (fun _ _ _ h => h) (by rfl) ?y7 hHeld ?r7
  case y7 => (intro w' hS; obtain ⟨hcc, hff⟩ := bcell hS; go_simp; with_reducible rfl)
  case r7 =>
  simp only [Act.put, List.setIfInBounds_toArray, List.set_cons_zero, List.set_cons_succ]
  refine Flow.take (i := 9) (d := (some 13)) (v := ?v9) rfl rfl (by kernel_rfl) (by kernel_rfl) (by kernel_rfl) (fun _ _ _ h => h) (by rfl) ?y9 hHeld ?r9
  case y9 => (intro w' hS; obtain ⟨hcc, hff⟩ := bcell hS; go_simp; with_reducible rfl)
  case r9 =>
  simp only [Act.put, List.setIfInBounds_toArray, List.set_cons_zero, List.set_cons_succ]
  refine Flow.take (i := 10) (d := (some 14)) (v := ?v10) rfl rfl (by kernel_rfl) (by kernel_rfl) (by kernel_rfl) (fun _ _ _ h => h) (by rfl) ?y10 hHeld ?r10
  case y10 => (intro w' hS; obtain ⟨hcc, hff⟩ := bcell hS; go_simp; with_reducible rfl)
  case r10 =>
  simp only [Act.put, List.setIfInBounds_toArray, List.set_cons_zero, List.set_cons_succ]
  refine Flow.flowB (f0 := 3) [(2, some 6, []), (5, some 9, [(2, some 6)]), (8, some 12, []), (11, some 15, [(5, some 9)])]
    (fun i v w' => (i = 2 → v = .int .i32 r) ∧ (i = 5 → v = .int .i32 t) ∧ (i = 8 → IsBytes key.data.toList v w') ∧ (i = 11 → IsBytes en.data.toList v w')) (by kernel_rfl) hHeld ?_ ?_ ?_
  · rintro j v wa wb ⟨h1, h2, h3, h4⟩ hb
    exact ⟨h1, h2, fun hj => (h3 hj).below hb, fun hj => (h4 hj).below hb⟩
  · refine ⟨?_, ?_, ?_, ?_, True.intro⟩
    · intro ν wa hS hU K hK
      refine wpOp_step rfl (fun K' hK' => ?_)
      simp only [Flow.canonL, List.foldl, Act.put, List.setIfInBounds_toArray, List.set_cons_zero, List.set_cons_succ]
      clear hHeld
      obtain ⟨hcc, hff⟩ := bcell hS
      have HS : Box _ := ⟨hS⟩
      clear hS
      go_simp
      refine (HR.out _).mono ?_
      rintro e wb ⟨rfl, rfl⟩
      refine hK' _ _ (hK _ _ (Flow.postB rfl HS.out (Below.refl _ _) ?_))
      simp [Flow.vAt]
    · intro ν wa hS hU K hK
      refine wpOp_step rfl (fun K' hK' => ?_)
      simp only [Flow.canonL, List.foldl, Act.put, List.setIfInBounds_toArray, List.set_cons_zero, List.set_cons_succ]
      clear hHeld
      obtain ⟨hcc, hff⟩ := bcell hS
      have HS : Box _ := ⟨hS⟩
      clear hS
      go_simp
      refine (HT.out _).mono ?_
      rintro e wb ⟨rfl, rfl⟩
      refine hK' _ _ (hK _ _ (Flow.postB rfl HS.out (Below.refl _ _) ?_))
      simp [Flow.vAt]
    · intro ν wa hS hU K hK
      refine wpOp_step rfl (fun K' hK' => ?_)
      simp only [Flow.canonL, List.foldl, Act.put, List.setIfInBounds_toArray, List.set_cons_zero, List.set_cons_succ]
      clear hHeld
      obtain ⟨hcc, hff⟩ := bcell hS
      have HS : Box _ := ⟨hS⟩
      clear hS
      have kc := kconv
      go_simp
      refine hK' _ _ (hK _ _ (Flow.postB rfl HS.out (Vr.bytesWorld_below _ _ _) ?_))
      simp [Flow.vAt]
      exact conv_bytes _ _
    · intro ν wa hS hU K hK
      refine wpOp_step rfl (fun K' hK' => ?_)
      simp only [Flow.canonL, List.foldl, Act.put, List.setIfInBounds_toArray, List.set_cons_zero, List.set_cons_succ]
      clear hHeld
      obtain ⟨hcc, hff⟩ := bcell hS
      have HS : Box _ := ⟨hS⟩
      clear hS
      go_simp
      refine (Range.bytes_of _ _).mono ?_
      rintro e wb ⟨a, c, rfl, hr, hb, hx⟩
      refine hK' _ _ (hK _ _ (Flow.postB rfl HS.out hb ?_))
      simp [Flow.vAt]
      exact ⟨a, c, by simp, hr⟩
  · intro ν w3 hB3 hU
    obtain ⟨u2, u5, u8, u11, -⟩ := hU
    have e2 := u2.1 rfl
    have e5 := u5.2.1 rfl
    obtain ⟨ka, kc, e8, -⟩ := u8.2.2.1 rfl
    obtain ⟨ea, ec, e11, -⟩ := u11.2.2.2 rfl
    simp only at e2 e5 e8 e11
    clear hHeld u2 u5 u8 u11
    simp only [List.map, Flow.canonL, List.foldl, Act.put, List.setIfInBounds_toArray, List.set_cons_zero, List.set_cons_succ]
    rw [e2, e5, e8, e11]
    clear e2 e5 e8 e11
    generalize key.data.toList.length = kn at *
    generalize en.data.toList.length = nn at *
    have hHeld := hB3
    refine Flow.take (i := 12) (d := (some 16)) (v := ?v12) rfl rfl (by kernel_rfl) (by kernel_rfl) (by kernel_rfl) (fun _ _ _ h => h) (by rfl) ?y12 hHeld ?r12
    case y12 => (intro w' hS; obtain ⟨hcc, hff⟩ := bcell hS; go_simp; with_reducible rfl)
    case r12 =>
    simp only [Act.put, List.setIfInBounds_toArray, List.set_cons_zero, List.set_cons_succ]
    refine Flow.stepB 13 (by kernel_rfl) rfl (fun K hK => ?_)
    go_simp
    refine hK _ _ (hHeld.more (Below.new _ _)) (fun hHeld => ?_)
    clear hK K
    refine Flow.take (i := 14) (d := (some 3)) (v := ?v14) rfl rfl (by kernel_rfl) (by kernel_rfl) (by kernel_rfl) (fun _ _ _ h => h) (by rfl) ?y14 hHeld ?r14
    case y14 => (intro w' hS; obtain ⟨hcc, hff⟩ := bcell hS; go_simp; with_reducible rfl)
    case r14 =>
    simp only [Act.put, List.setIfInBounds_toArray, List.set_cons_zero, List.set_cons_succ]
    refine Flow.doneB (by kernel_rfl) ?_
    have hz3 := hB3.size
    obtain ⟨hcc, hff⟩ := bcell hB3
    have c0 : w3.cell? ⟨w.heap.size, 0, none⟩ = some (.int .i64 t) := (hcc _ _ (by simp)).trans (by simp)
    have c4 : w3.cell? ⟨w.heap.size, 4, none⟩ = some (.int .i64 n) := (hcc _ _ (by simp)).trans (by simp)
    have c5 : w3.cell? ⟨w.heap.size, 5, none⟩ = some (.string x) := (hcc _ _ (by simp)).trans (by simp)
    have c6 : w3.cell? ⟨w.heap.size, 6, none⟩ = some (.bool false) := (hcc _ _ (by simp)).trans (by simp)
    have hlt : w.heap.size < w3.heap.size := (cell_lt c0).1
    have HB3 : Box _ := ⟨HB0.out.more hB3⟩
    have hcase := HTC.out
    clear hB3 hHeld hcc hff hz3
    rcases hcase with rfl | rfl | rfl | rfl | rfl
    case inr.inr.inr.inl =>
      go_wp2_with (refine wpList_conv (by rfl) _ rfl _ rfl ?_)
      rintro va vc w4 hv hfr hb4
      unfold New at hb4
      have HV : Box _ := ⟨hv⟩
      have r3 := alloc_new w3 (.cells #[.int .i32 r, .int .i32 3, .slice ka kn kc, .nilIface, .slice ea nn ec] 98)
      have r4 := (hb4.block _ (lt_of_block r3)).trans r3
      have f4 := free_of (alloc_at r4 (.cells #[.slice va x.size vc] 110)) 3
      have g4 := cell_of (alloc_at r4 (.cells #[.slice va x.size vc] 110)) 3
      simp at g4
      have H4 : Box _ := ⟨hb4⟩
      have R4 : Box _ := ⟨r4⟩
      have hn : ¬ w3.heap.size = w4.heap.size := by have := lt_of_block r4; omega
      clear hv hb4 r3 r4
      go_wp2_with fail
      go_ret
      refine ⟨w3.heap.size, _, _, _, rfl, set_block (alloc_at R4.out _) 3 _, ?_, HB3.out.size, ?_⟩
      · refine .inr (.inr (.inr (.inr ⟨rfl, w4.heap.size, va, vc, rfl, ?_, ?_⟩)))
        · refine cell_other ?_ (fun e => hn e.symm)
          simp
        · refine row_set (row_below HV.out (Below.new _ _)) (fun q hq => ?_)
          have := hfr q hq
          simp at this
          omega
      · exact (((HB3.out.more (Below.new _ _)).more H4.out).more (Below.new _ _)).setCell HB3.out.size _
    all_goals
      go_wp2_with fail
      go_ret
      refine ⟨w3.heap.size, _, _, _, rfl, alloc_at (alloc_new _ _) _, ?_, HB3.out.size, (HB3.out.more (Below.new _ _)).more (Below.new _ _)⟩
    · exact .inl ⟨rfl, _, rfl, by simp⟩
    · exact .inr (.inl ⟨rfl, _, rfl, by simp⟩)
    · exact .inr (.inr (.inl ⟨rfl, _, rfl, by simp⟩))
    · exact .inr (.inr (.inr (.inl ⟨rfl, _, rfl, by simp⟩)))
end Go.Proofs.Ytibopfemknnocaa.CmpIn
