import Derived.Test.YtibopfemknnocaaEnc
namespace Go.Proofs.Ytibopfemknnocaa.Order
open Go.RowKit Go.Lib Go.Proofs.Ytibopfemknnocaa.Open Go.Proofs.Ytibopfemknnocaa.Kept Go.Proofs.Ytibopfemknnocaa.Rev Go.Proofs.Ytibopfemknnocaa.Key Go.Proofs.Ytibopfemknnocaa.Fine Go.Proofs.Ytibopfemknnocaa.Back Go.Proofs.Ytibopfemknnocaa.Live

theorem conv_back (w : World) (b : Nat) (c : Nat) (l : List UInt8) (n : Nat) (hn : l.length = n) (h : Vr.RowAt w (some ⟨b, 0, none⟩) l) : (convert 47 9 (.slice (some ⟨b, 0, none⟩) n c)).run Try.prog w = .ok (.string ⟨l.toArray⟩) w := by
  subst hn
  refine run_convert_bytes_back w 47 9 5 _ c l Try.underlying47 Try.underlying5 Try.underlying9 (fun j hj => ?_)
  obtain ⟨b', o, e, hc⟩ := h.lt j hj
  simp only [Option.some.injEq, Addr.mk.injEq] at e
  obtain ⟨rfl, rfl, -⟩ := e
  have ea : (⟨b, 0, none⟩ : Addr).add j = ⟨b, 0 + j, none⟩ := by unfold Addr.add; split <;> simp_all
  rw [ea, hc, List.getD_eq_getElem?_getD, List.getElem?_eq_getElem hj]
  rfl

set_option linter.unusedSimpArgs false
set_option linter.unusedSimpArgs false
set_option linter.unusedSimpArgs false
set_option linter.unusedSimpArgs false
set_option linter.unusedSimpArgs false
set_option maxRecDepth 100000 in
theorem greater (w : World) (m s m' s' : Int) : Calls Try.prog 22 #[.agg #[.int .i64 m, .int .i64 s], .agg #[.int .i64 m', .int .i64 s']] w (Gives (.bool (gtr m s m' s')) w) := by
  go_enter Try.func22, Try.ntmps22
  go_wp2_with fail
  refine Flow.start (by kernel_rfl) (fun hHeld => ?_)
  refine Flow.take (i := 0) (d := (some 5)) (v := ?v0) rfl rfl (by kernel_rfl) (by kernel_rfl) (by kernel_rfl) (fun _ _ _ h => h) (by rfl) ?y0 hHeld ?r0
  case y0 => (intro w' hS; obtain ⟨hcc, hff⟩ := bcell hS; go_simp; with_reducible rfl)
  case r0 =>
  simp only [Act.put, List.setIfInBounds_toArray, List.set_cons_zero, List.set_cons_succ]
  refine Flow.take (i := 2) (d := (some 7)) (v := ?v2) rfl rfl (by kernel_rfl) (by kernel_rfl) (by kernel_rfl) (fun _ _ _ h => h) (by rfl) ?y2 hHeld ?r2
  case y2 => (intro w' hS; obtain ⟨hcc, hff⟩ := bcell hS; go_simp; with_reducible rfl)
  case r2 =>
  simp only [Act.put, List.setIfInBounds_toArray, List.set_cons_zero, List.set_cons_succ]
  refine Flow.stepB 1 (by kernel_rfl) rfl (fun K hK => ?_)
  go_simp
  refine (rev_in _ _ _).mono ?_
  rintro e w1 ⟨rfl, hb⟩
  refine hK _ _ (hHeld.more hb) ?_
  clear hK K
  replace hHeld := hHeld.more hb
  refine Flow.stepB 3 (by kernel_rfl) rfl (fun K hK => ?_)
  go_simp
  refine (rev_in _ _ _).mono ?_
  rintro e w2 ⟨rfl, hb2⟩
  refine hK _ _ (hHeld.more hb2) ?_
  clear hK K
  replace hHeld := hHeld.more hb2
  refine Flow.stepB 4 (by kernel_rfl) rfl (fun K hK => ?_)
  go_simp
  refine (greater_than _ _ _ _ _).mono ?_
  rintro e w3 ⟨rfl, hb3⟩
  refine hK _ _ (hHeld.more hb3) ?_
  clear hK K
  replace hHeld := hHeld.more hb3
  refine Flow.take (i := 5) (d := (some 4)) (v := ?v5) rfl rfl (by kernel_rfl) (by kernel_rfl) (by kernel_rfl) (fun _ _ _ h => h) (by rfl) ?y5 hHeld ?r5
  case y5 => (intro w' hS; obtain ⟨hcc, hff⟩ := bcell hS; go_simp; with_reducible rfl)
  case r5 =>
  simp only [Act.put, List.setIfInBounds_toArray, List.set_cons_zero, List.set_cons_succ]
  refine Flow.doneB (by kernel_rfl) ?_
  clear hb hb2 hb3
  have HH : Box _ := ⟨hHeld⟩
  clear hHeld
  go_wp2
  go_ret
  exact gives (((Below.new _ _).more (Below.new _ _)).more HH.out)

theorem gtr_lss (m s m' s' : Int) : gtr m s m' s' = lss m' s' m s := by
  unfold gtr lss
  rw [Bool.eq_iff_iff]
  simp
  omega

def least (a b c d : Int) : Int := let x := if b < a then b else a; let y := if c < x then c else x; if d < y then d else y
theorem run_min4 (ts : Array TypeId) (t : TypeId) (a b c d : Int) (w : World) : (Builtin.min_ ts t #[.int .i64 a, .int .i64 b, .int .i64 c, .int .i64 d]).run Try.prog w = .ok (.int .i64 (least a b c d)) w := rfl
theorem least_pos (a b c d : Int) (h : ¬ least a b c d < 0) : 0 ≤ a ∧ 0 ≤ b ∧ 0 ≤ c ∧ 0 ≤ d := by
  unfold least at h; simp only at h; split at h <;> split at h <;> split at h <;> omega

set_option maxRecDepth 100000 in
set_option maxHeartbeats 2000000 in
theorem law (w : World) (m s m' s' : Int) (b1 : m < 9223372036854775808) (b2 : s < 9223372036854775808) (b3 : m' < 9223372036854775808) (b4 : s' < 9223372036854775808) :
    Calls Try.prog 7 #[.agg #[.int .i64 m, .int .i64 s], .agg #[.int .i64 m', .int .i64 s']] w (Gives (.bool true) w) := by
  have HG : Box (∀ w, Calls Try.prog 22 #[.agg #[.int .i64 m, .int .i64 s], .agg #[.int .i64 m', .int .i64 s']] w (Gives (.bool (lss m' s' m s)) w)) := ⟨fun w => by rw [← gtr_lss]; exact greater w m s m' s'⟩
  have BD : Box (m < 9223372036854775808 ∧ s < 9223372036854775808 ∧ m' < 9223372036854775808 ∧ s' < 9223372036854775808) := ⟨b1, b2, b3, b4⟩
  clear b1 b2 b3 b4
  go_enter Try.func7, Try.ntmps7
  go_wp2_with fail
  refine Flow.start (by kernel_rfl) (fun hHeld => ?_)
  refine Flow.take (i := 0) (d := (some 5)) (v := ?v0) rfl rfl (by kernel_rfl) (by kernel_rfl) (by kernel_rfl) (fun _ _ _ h => h) (by rfl) ?y0 hHeld ?r0
  case y0 => (intro w' hS; obtain ⟨hcc, hff⟩ := bcell hS; go_simp; with_reducible rfl)
  case r0 =>
  simp only [Act.put, List.setIfInBounds_toArray, List.set_cons_zero, List.set_cons_succ]
  refine Flow.take (i := 1) (d := (some 6)) (v := ?v1) rfl rfl (by kernel_rfl) (by kernel_rfl) (by kernel_rfl) (fun _ _ _ h => h) (by rfl) ?y1 hHeld ?r1
  case y1 => (intro w' hS; obtain ⟨hcc, hff⟩ := bcell hS; go_simp; with_reducible rfl)
  case r1 =>
  simp only [Act.put, List.setIfInBounds_toArray, List.set_cons_zero, List.set_cons_succ]
  refine Flow.take (i := 3) (d := (some 8)) (v := ?v3) rfl rfl (by kernel_rfl) (by kernel_rfl) (by kernel_rfl) (fun _ _ _ h => h) (by rfl) ?y3 hHeld ?r3
  case y3 => (intro w' hS; obtain ⟨hcc, hff⟩ := bcell hS; go_simp; with_reducible rfl)
  case r3 =>
  simp only [Act.put, List.setIfInBounds_toArray, List.set_cons_zero, List.set_cons_succ]
  refine Flow.take (i := 4) (d := (some 9)) (v := ?v4) rfl rfl (by kernel_rfl) (by kernel_rfl) (by kernel_rfl) (fun _ _ _ h => h) (by rfl) ?y4 hHeld ?r4
  case y4 => (intro w' hS; obtain ⟨hcc, hff⟩ := bcell hS; go_simp; with_reducible rfl)
  case r4 =>
  simp only [Act.put, List.setIfInBounds_toArray, List.set_cons_zero, List.set_cons_succ]
  refine Flow.stepB 2 (by kernel_rfl) rfl (fun K hK => ?_)
  go_simp
  refine (HG.out _).mono ?_
  rintro e w1 ⟨rfl, hb⟩
  refine hK _ _ (hHeld.more hb) ?_
  clear hK K
  replace hHeld := hHeld.more hb
  refine Flow.stepB 5 (by kernel_rfl) rfl (fun K hK => ?_)
  go_simp
  refine (spec_less _ _ _ _ _).mono ?_
  rintro e w2 ⟨rfl, hb2⟩
  refine hK _ _ (hHeld.more hb2) ?_
  clear hK K
  replace hHeld := hHeld.more hb2
  refine Flow.take (i := 6) (d := (some 11)) (v := ?v6) rfl rfl (by kernel_rfl) (by kernel_rfl) (by kernel_rfl) (fun _ _ _ h => h) (by rfl) ?y6 hHeld ?r6
  case y6 => (intro w' hS; obtain ⟨hcc, hff⟩ := bcell hS; go_simp; with_reducible rfl)
  case r6 =>
  simp only [Act.put, List.setIfInBounds_toArray, List.set_cons_zero, List.set_cons_succ]
  refine Flow.doneB (by kernel_rfl) ?_
  obtain ⟨hcc, hff⟩ := bcell hHeld
  have HH : Box _ := ⟨hHeld⟩
  clear hb hb2 hHeld HG
  have hmin := run_min4
  cases hmn : decide (least m s m' s' < 0) with
  | true =>
    go_wp2_with fail
    refine (rv_live _).mono ?_
    rintro e w3 ⟨rfl, hb3⟩
    have H3 : Box _ := ⟨hb3⟩
    clear hb3
    go_wp2_with fail
    go_ret
    exact gives (((((Below.new _ _).more (Below.new _ _)).more HH.out)).more H3.out)
  | false =>
    have hpos : ¬ least m s m' s' < 0 := by simpa using hmn
    obtain ⟨p1, p2, p3, p4⟩ := least_pos _ _ _ _ hpos
    obtain ⟨q1, q2, q3, q4⟩ := BD.out
    have HL : Box (Op.bytesLess (enc m s) (enc m' s') = lss m s m' s') := ⟨Enc.enc_less m s m' s' p1 p2 p3 p4 q1 q2 q3 q4⟩
    have c0 : w2.cell? ⟨w.heap.size, 0, none⟩ = some (.int .i64 m) := (hcc _ _ (by simp; try omega)).trans (by simp)
    have c1 : w2.cell? ⟨w.heap.size, 1, none⟩ = some (.int .i64 s) := (hcc _ _ (by simp; try omega)).trans (by simp)
    have c2 : w2.cell? ⟨w.heap.size + 1, 0, none⟩ = some (.int .i64 m') := (hcc _ _ (by simp; try omega)).trans (by simp)
    have c3 : w2.cell? ⟨w.heap.size + 1, 1, none⟩ = some (.int .i64 s') := (hcc _ _ (by simp; try omega)).trans (by simp)
    have hz : w.heap.size + 2 ≤ w2.heap.size := by have := HH.out.size; simpa using this
    have z0 : w.heap.size < w2.heap.size := by omega
    have z1 : w.heap.size + 1 < w2.heap.size := by omega
    clear p1 p2 p3 p4 q1 q2 q3 q4 hpos hcc hff BD hz
    go_wp2_with fail
    refine Flow.start (by kernel_rfl) (fun hHeld => ?_)
    refine Flow.take (i := 0) (d := (some 23)) (v := ?vb0) rfl rfl (by kernel_rfl) (by kernel_rfl) (by kernel_rfl) (fun _ _ _ h => h) (by rfl) ?yb0 hHeld ?rb0
    case yb0 => (intro w' hS; obtain ⟨hcc, hff⟩ := bcell hS; go_simp; with_reducible rfl)
    case rb0 =>
    simp only [Act.put, List.setIfInBounds_toArray, List.set_cons_zero, List.set_cons_succ]
    refine Flow.take (i := 3) (d := (some 26)) (v := ?vb3) rfl rfl (by kernel_rfl) (by kernel_rfl) (by kernel_rfl) (fun _ _ _ h => h) (by rfl) ?yb3 hHeld ?rb3
    case yb3 => (intro w' hS; obtain ⟨hcc, hff⟩ := bcell hS; go_simp; with_reducible rfl)
    case rb3 =>
    simp only [Act.put, List.setIfInBounds_toArray, List.set_cons_zero, List.set_cons_succ]
    refine Flow.take (i := 7) (d := (some 30)) (v := ?vb7) rfl rfl (by kernel_rfl) (by kernel_rfl) (by kernel_rfl) (fun _ _ _ h => h) (by rfl) ?yb7 hHeld ?rb7
    case yb7 => (intro w' hS; obtain ⟨hcc, hff⟩ := bcell hS; go_simp; with_reducible rfl)
    case rb7 =>
    simp only [Act.put, List.setIfInBounds_toArray, List.set_cons_zero, List.set_cons_succ]
    refine Flow.take (i := 8) (d := (some 31)) (v := ?vb8) rfl rfl (by kernel_rfl) (by kernel_rfl) (by kernel_rfl) (fun _ _ _ h => h) (by rfl) ?yb8 hHeld ?rb8
    case yb8 => (intro w' hS; obtain ⟨hcc, hff⟩ := bcell hS; go_simp; with_reducible rfl)
    case rb8 =>
    simp only [Act.put, List.setIfInBounds_toArray, List.set_cons_zero, List.set_cons_succ]
    refine Flow.flowB (f0 := 5) [(1, some 24, []), (2, some 25, [(1, some 24)]), (4, some 27, [(1, some 24)]), (5, some 28, [(4, some 27)]), (9, some 32, [(4, some 27)]), (6, some 29, [(2, some 25), (5, some 28)])]
      (fun i v w' => (i = 1 → ∃ b, v = .slice (some ⟨b, 0, none⟩) 17 18 ∧ b < w'.heap.size ∧ w'.heap[b]? = some (.cells (filled m s zeros18) 5 (0, 0))) ∧ (i = 2 → v = .string ⟨(enc m s).toArray⟩) ∧ (i = 4 → ∃ b, v = .slice (some ⟨b, 0, none⟩) 17 18 ∧ b < w'.heap.size ∧ w'.heap[b]? = some (.cells (filled m' s' zeros18) 5 (0, 0))) ∧ (i = 5 → v = .string ⟨(enc m' s').toArray⟩) ∧ (i = 9 → v = .bool (lss m s m' s')) ∧ (i = 6 → v = .bool (lss m s m' s'))) (by kernel_rfl) hHeld ?_ ?_ ?_
    · rintro j v wa wb ⟨h1, h2, h3, h4, h5, h6⟩ hb
      refine ⟨fun hj => ?_, h2, fun hj => ?_, h4, h5, h6⟩
      · obtain ⟨b, rfl, hl, hr⟩ := h1 hj
        exact ⟨b, rfl, Nat.lt_of_lt_of_le hl hb.size, (hb.block b hl).trans hr⟩
      · obtain ⟨b, rfl, hl, hr⟩ := h3 hj
        exact ⟨b, rfl, Nat.lt_of_lt_of_le hl hb.size, (hb.block b hl).trans hr⟩
    · refine ⟨?_, ?_, ?_, ?_, ?_, ?_, True.intro⟩
      · intro ν wa hS hU K hK
        refine wpOp_step rfl (fun K' hK' => ?_)
        simp only [Flow.canonL, List.foldl, Act.put, List.setIfInBounds_toArray, List.set_cons_zero, List.set_cons_succ]
        clear hHeld
        obtain ⟨hcc, hff⟩ := bcell hS
        have HS : Box _ := ⟨hS⟩
        clear hS
        go_simp
        refine (rev_bytes _ _ _).mono ?_
        rintro e wb ⟨b, rfl, hb, hr, hbel⟩
        refine hK' _ _ (hK _ _ (Flow.postB rfl HS.out hbel ?_))
        simp [Flow.vAt]
        exact ⟨lt_of_block hr, hr⟩
      · intro ν wa hS hU K hK
        refine wpOp_step rfl (fun K' hK' => ?_)
        simp only [Flow.canonL, List.foldl, Act.put, List.setIfInBounds_toArray, List.set_cons_zero, List.set_cons_succ]
        clear hHeld
        obtain ⟨hcc, hff⟩ := bcell hS
        have HS : Box _ := ⟨hS⟩
        clear hS
        obtain ⟨b, h0, hl, hr⟩ := hU.1.1 rfl
        have hk := conv_back wa b 18 (enc m s) 17 (enc_length m s) (rev_row hr)
        go_simp
        refine hK' _ _ (hK _ _ (Flow.postB (by simp [Flow.canonL, Act.put, Flow.vAt, h0]) HS.out (Below.refl _ _) ?_))
        simp [Flow.vAt]
      · intro ν wa hS hU K hK
        refine wpOp_step rfl (fun K' hK' => ?_)
        simp only [Flow.canonL, List.foldl, Act.put, List.setIfInBounds_toArray, List.set_cons_zero, List.set_cons_succ]
        clear hHeld
        obtain ⟨hcc, hff⟩ := bcell hS
        have HS : Box _ := ⟨hS⟩
        clear hS
        go_simp
        refine (rev_bytes _ _ _).mono ?_
        rintro e wb ⟨b, rfl, hb, hr, hbel⟩
        refine hK' _ _ (hK _ _ (Flow.postB rfl HS.out hbel ?_))
        simp [Flow.vAt]
        exact ⟨lt_of_block hr, hr⟩
      · intro ν wa hS hU K hK
        refine wpOp_step rfl (fun K' hK' => ?_)
        simp only [Flow.canonL, List.foldl, Act.put, List.setIfInBounds_toArray, List.set_cons_zero, List.set_cons_succ]
        clear hHeld
        obtain ⟨hcc, hff⟩ := bcell hS
        have HS : Box _ := ⟨hS⟩
        clear hS
        obtain ⟨b, h0, hl, hr⟩ := hU.1.2.2.1 rfl
        have hk := conv_back wa b 18 (enc m' s') 17 (enc_length m' s') (rev_row hr)
        go_simp
        refine hK' _ _ (hK _ _ (Flow.postB (by simp [Flow.canonL, Act.put, Flow.vAt, h0]) HS.out (Below.refl _ _) ?_))
        simp [Flow.vAt]
      · intro ν wa hS hU K hK
        refine wpOp_step rfl (fun K' hK' => ?_)
        simp only [Flow.canonL, List.foldl, Act.put, List.setIfInBounds_toArray, List.set_cons_zero, List.set_cons_succ]
        clear hHeld
        obtain ⟨hcc, hff⟩ := bcell hS
        have HS : Box _ := ⟨hS⟩
        clear hS
        go_simp
        refine (spec_less _ _ _ _ _).mono ?_
        rintro e wb ⟨rfl, hbel⟩
        refine hK' _ _ (hK _ _ (Flow.postB rfl HS.out hbel ?_))
        simp [Flow.vAt]
      · intro ν wa hS hU K hK
        refine wpOp_step rfl (fun K' hK' => ?_)
        simp only [Flow.canonL, List.foldl, Act.put, List.setIfInBounds_toArray, List.set_cons_zero, List.set_cons_succ]
        clear hHeld
        obtain ⟨hcc, hff⟩ := bcell hS
        have HS : Box _ := ⟨hS⟩
        clear hS
        have h2 := hU.1.2.1 rfl
        have h5 := hU.2.1.2.2.2.1 rfl
        simp only at h2 h5
        have e0 : (⟨(enc m s).toArray⟩ : ByteArray).toList = enc m s := by rw [ByteArray.toList_eq]
        have e0' : (⟨(enc m' s').toArray⟩ : ByteArray).toList = enc m' s' := by rw [ByteArray.toList_eq]
        have hl := HL.out
        go_simp
        refine hK' _ _ (hK _ _ (Flow.postB (by simp [Flow.canonL, Act.put, Flow.vAt, h2, h5]) HS.out (Below.refl _ _) ?_))
        simp [Flow.vAt]
    · intro ν w3 hB3 hU
      obtain ⟨u1, u2, u4, u5, u9, u6, -⟩ := hU
      have e2 := u2.2.1 rfl
      have e5 := u5.2.2.2.1 rfl
      have e9 := u9.2.2.2.2.1 rfl
      have e6 := u6.2.2.2.2.2 rfl
      simp only at e2 e5 e9 e6
      clear hHeld u1 u2 u4 u5 u9 u6
      simp only [List.map, Flow.canonL, List.foldl, Act.put, List.setIfInBounds_toArray, List.set_cons_zero, List.set_cons_succ]
      rw [e2, e5, e9, e6]
      clear e2 e5 e9 e6 HL
      have hHeld := hB3
      generalize lss m s m' s' = z at *
      refine Flow.take (i := 10) (d := (some 33)) (v := ?vb10) rfl rfl (by kernel_rfl) (by kernel_rfl) (by kernel_rfl) (fun _ _ _ h => h) (by rfl) ?yb10 hHeld ?rb10
      case yb10 => (intro w' hS; obtain ⟨hcc, hff⟩ := bcell hS; go_simp; with_reducible rfl)
      case rb10 =>
      simp only [Act.put, List.setIfInBounds_toArray, List.set_cons_zero, List.set_cons_succ]
      refine Flow.take (i := 11) (d := (some 34)) (v := ?vb11) rfl rfl (by kernel_rfl) (by kernel_rfl) (by kernel_rfl) (fun _ _ _ h => h) (by rfl) ?yb11 hHeld ?rb11
      case yb11 => (intro w' hS; obtain ⟨hcc, hff⟩ := bcell hS; go_simp; with_reducible rfl)
      case rb11 =>
      simp only [Act.put, List.setIfInBounds_toArray, List.set_cons_zero, List.set_cons_succ]
      refine Flow.stepB 12 (by kernel_rfl) rfl (fun K hK => ?_)
      go_simp
      refine (rv_live _).mono ?_
      rintro e w4 ⟨rfl, hb4⟩
      refine hK _ _ (hHeld.more hb4) ?_
      clear hK K
      replace hHeld := hHeld.more hb4
      refine Flow.take (i := 13) (d := (some 36)) (v := ?vb13) rfl rfl (by kernel_rfl) (by kernel_rfl) (by kernel_rfl) (fun _ _ _ h => h) (by rfl) ?yb13 hHeld ?rb13
      case yb13 => (intro w' hS; obtain ⟨hcc, hff⟩ := bcell hS; go_simp; with_reducible rfl)
      case rb13 =>
      simp only [Act.put, List.setIfInBounds_toArray, List.set_cons_zero, List.set_cons_succ]
      refine Flow.take (i := 14) (d := (some 4)) (v := ?vb14) rfl rfl (by kernel_rfl) (by kernel_rfl) (by kernel_rfl) (fun _ _ _ h => h) (by rfl) ?yb14 hHeld ?rb14
      case yb14 => (intro w' hS; obtain ⟨hcc, hff⟩ := bcell hS; go_simp; with_reducible rfl)
      case rb14 =>
      simp only [Act.put, List.setIfInBounds_toArray, List.set_cons_zero, List.set_cons_succ]
      refine Flow.doneB (by kernel_rfl) ?_
      have H4 : Box _ := ⟨hHeld⟩
      clear hHeld hb4 hB3
      go_wp2_with fail
      go_ret
      exact gives ((((Below.new _ _).more (Below.new _ _)).more HH.out).more H4.out)
end Go.Proofs.Ytibopfemknnocaa.Order
