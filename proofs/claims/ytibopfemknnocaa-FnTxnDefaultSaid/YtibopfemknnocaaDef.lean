import Derived.Test.YtibopfemknnocaaRange
import Derived.BigQuiet
import Derived.Deep.DeepCutAuto
namespace Go.Proofs.Ytibopfemknnocaa.Def
open Go.RowKit Go.Lib Go.Proofs.Ytibopfemknnocaa.Open Go.Proofs.Ytibopfemknnocaa.Fits Go.Proofs.Ytibopfemknnocaa.Range

def filt (mm xm mc xc : Int) : Bool := (!(mm == 0) || (!(xm == 0) || (!(mc == 0) || !(xc == 0))))

set_option maxRecDepth 100000 in
theorem has_rev (w : World) (b : Nat) (mm xm mc xc : Int) (h : ReqAt w b mm xm mc xc) :
    Calls Try.prog 31 #[.pointer (some ⟨b, 0, none⟩)] w fun e w' => e = .returned (.bool (filt mm xm mc xc)) ∧ w = w' := by
  obtain ⟨c0, c1, c2, c3⟩ := h
  go_enter Try.func31, Try.ntmps31
  go_wp2
  all_goals (go_ret; refine ⟨?_, rfl⟩; simp_all [filt, bne])

set_option maxRecDepth 100000 in
theorem has_filters (w : World) (v : List Value) (ca : Option Addr) (cn cc : Nat) (mm xm mc xc : Int) (hv : IsReq v ca cn cc mm xm mc xc) :
    Calls Try.prog 11 #[.agg v.toArray] w fun e w' => e = .returned (.bool (filt mm xm mc xc)) ∧ Below w.heap.size w w' := by
  have H := Lib.hid (fun w => range_in w v ca cn cc mm xm mc xc hv)
  obtain ⟨kind, key, e, val, lease, rev, limit, so, st, ko, co, pr, iv, il, ta, tn, tc, ea, en, ec, rfl⟩ := hv
  go_enter Try.func11, Try.ntmps11
  go_wp2_with (refine wpList_load_row rfl 25 _ rfl _ rfl _ _ _ _ (heap_alloc_new _ _) Try.underlying25 rfl (by kernel_rfl) ?_)
  refine (H.out _).mono ?_
  rintro e' w1 ⟨b, rfl, h1, h2, h3, hb⟩
  have H3 := Lib.hid h3
  clear h3
  go_wp2_with fail
  refine (has_rev _ _ _ _ _ _ H3.out).mono ?_
  rintro e' w2 ⟨rfl, rfl⟩
  go_wp2_with fail
  go_ret
  exact ⟨rfl, (Below.refl _ _).more1 hb⟩

def dflt (t o : Int) : Bool := (o == 0) || ((t == 0) && (o == 1))
set_option maxRecDepth 100000 in
theorem is_default (w : World) (t o : Int) : Calls Try.prog 29 #[.int .i32 t, .int .i32 o] w fun e w' => e = .returned (.bool (dflt t o)) ∧ w = w' := by
  go_enter Try.func29, Try.ntmps29
  go_wp2
  all_goals (go_ret; refine ⟨?_, rfl⟩; simp_all [dflt])
set_option maxRecDepth 100000 in
theorem default_order (w : World) (t o : Int) : Calls Try.prog 10 #[.int .i64 t, .int .i64 o] w fun e w' => e = .returned (.bool (dflt (i32of t) (i32of o))) ∧ w = w' := by
  go_enter Try.func10, Try.ntmps10
  go_wp2_with (first | (go_at_call 30; refine (order _ _).mono ?_; rintro e' w2 ⟨rfl, rfl⟩) | (go_at_call 29; refine (is_default _ _ _).mono ?_; rintro e' w2 ⟨rfl, rfl⟩))
  go_ret
  exact ⟨rfl, rfl⟩

set_option maxRecDepth 100000 in
set_option maxHeartbeats 4000000 in
theorem law (w : World) (t o : Int) (v : List Value) (ca : Option Addr) (cn cc : Nat) (mm xm mc xc : Int) (hv : IsReq v ca cn cc mm xm mc xc) (h : CmpsAt w ca cn) (hn : cn ≤ 9223372036854775807) :
    Calls Try.prog 3 #[.int .i64 t, .int .i64 o, .agg v.toArray] w fun e w' => e = .returned (.bool true) ∧ Below w.heap.size w w' := by
  have hcs : ∀ ob, CmpsAt (w.alloc ob) ca cn := fun ob i hi => by
    obtain ⟨ds, h1, b, oo, rfl, hb, hc⟩ := h i hi
    exact ⟨ds, h1, b, oo, rfl, by simp; omega, fun j hj => (World.cell?_alloc_old _ _ _ (by simp; omega)).trans (hc j hj)⟩
  have H1 := Lib.hid (fun ob => fits8 (w.alloc ob) v ca cn cc mm xm mc xc hv (hcs ob) hn)
  have H2 := Lib.hid (fun w => has_filters w v ca cn cc mm xm mc xc hv)
  clear h hn hcs
  obtain ⟨C, hC, hi, h9, h10, h11, h12⟩ : ∃ C : Array Value, v.toArray = C ∧ (Try.prog.info? 25).map (·.size) = some C.size ∧ C[9]? = some (.int .i64 mm) ∧ C[10]? = some (.int .i64 xm) ∧ C[11]? = some (.int .i64 mc) ∧ C[12]? = some (.int .i64 xc) := by
    obtain ⟨kind, key, e, val, lease, rev, limit, so, st, ko, co, pr, iv, il, ta, tn, tc, ea, en, ec, rfl⟩ := hv
    exact ⟨_, rfl, by kernel_rfl, rfl, rfl, rfl, rfl⟩
  rw [hC] at H1 H2 ⊢
  have HI := Lib.hid hi
  clear hC hv hi v
  go_enter Try.func3, Try.ntmps3
  go_wp2_with (refine wpList_load_row rfl 25 _ rfl _ rfl _ _ _ _ (heap_alloc_new _ _) Try.underlying25 rfl HI.out ?_)
  refine (H1.out _).mono ?_
  rintro e' w1 ⟨b, rfl, hb⟩
  have HB := Lib.hid hb
  obtain ⟨hcc, hff⟩ := bcell hb
  have k9 : w1.cell? ⟨w.heap.size, 9, none⟩ = some (.int .i64 mm) := by rw [hcc _ _ (by simp)]; simpa using h9
  have k10 : w1.cell? ⟨w.heap.size, 10, none⟩ = some (.int .i64 xm) := by rw [hcc _ _ (by simp)]; simpa using h10
  have k11 : w1.cell? ⟨w.heap.size, 11, none⟩ = some (.int .i64 mc) := by rw [hcc _ _ (by simp)]; simpa using h11
  have k12 : w1.cell? ⟨w.heap.size, 12, none⟩ = some (.int .i64 xc) := by rw [hcc _ _ (by simp)]; simpa using h12
  have hrow := HB.out.block w.heap.size (by simp)
  rw [heap_alloc_new] at hrow
  have HR := Lib.hid hrow
  clear hb hcc hff hrow h9 h10 h11 h12
  cases b with
  | false =>
    go_wp2_with fail
    go_ret
    exact ⟨rfl, (Below.refl _ _).more1 HB.out⟩
  | true =>
    by_cases hg : t < 0 ∨ 4 < t ∨ o < 0 ∨ 2 < o ∨ mm < 0 ∨ xm < 0 ∨ mc < 0 ∨ xc < 0
    · go_wp2_with fail
      all_goals (first | (exfalso; omega) | (go_ret; exact ⟨rfl, (Below.refl _ _).more1 HB.out⟩) | (go_outline; go_show))
    · have g1 : 0 ≤ t := by omega
      have g2 : t ≤ 4 := by omega
      have g3 : 0 ≤ o := by omega
      have g4 : o ≤ 2 := by omega
      have g5 : 0 ≤ mm := by omega
      have g6 : 0 ≤ xm := by omega
      have g7 : 0 ≤ mc := by omega
      have g8 : 0 ≤ xc := by omega
      have e1 : i32of t = t := by unfold i32of; rw [if_neg (by omega)]
      have e2 : i32of o = o := by unfold i32of; rw [if_neg (by omega)]
      have HD := Lib.hid (default_order w1 t o)
      rw [e1, e2] at HD
      have HD4 := Lib.hid (fun w => default_order w 0 1)
      have hc : (o = 0 ∧ dflt t o = true) ∨ (o = 1 ∧ t = 0 ∧ dflt t o = true) ∨ (o = 1 ∧ (t == 0) = false ∧ dflt t o = false) ∨ (o = 2 ∧ dflt t o = false) := by
        unfold dflt
        rcases (by omega : o = 0 ∨ o = 1 ∨ o = 2) with rfl | rfl | rfl
        · exact .inl ⟨rfl, rfl⟩
        · by_cases ht : t = 0
          · subst ht; exact .inr (.inl ⟨rfl, rfl, rfl⟩)
          · exact .inr (.inr (.inl ⟨rfl, by simpa using ht, by simpa using ht⟩))
        · exact .inr (.inr (.inr ⟨rfl, by simp⟩))
      clear hg e1 e2
      go_upto_region 5 with fail
      go_cut [7] (fun s7 wx => s7 = .bool (filt mm xm mc xc) ∧ wx = w1)
      case first =>
        have HV : Hid (filt mm xm mc xc = (!(mm == 0) || (!(xm == 0) || (!(mc == 0) || !(xc == 0))))) := rfl
        cases hmm : (mm != 0) <;> cases hxm : (xm != 0) <;> cases hmc : (mc != 0)
        all_goals
          go_wp2_with fail
          go_meet
          refine ⟨?_, rfl⟩
          simp_all [filt, bne]
      case rest =>
        obtain ⟨rfl, rfl⟩ := hcut
        rcases hc with ⟨rfl, hd⟩ | ⟨rfl, rfl, hd⟩ | ⟨rfl, ht, hd⟩ | ⟨rfl, hd⟩
        all_goals
          have HDD := Lib.hid hd
          clear hd
          go_wp2_with fail
          refine HD.out.mono ?_
          rintro e' w2 ⟨rfl, rfl⟩
          rw [HDD.out]
          go_wp2_with (refine wpList_load_block (by rfl) 25 _ rfl _ rfl _ _ _ _ HR.out Try.underlying25 rfl HI.out ?_)
          refine (H2.out _).mono ?_
          rintro e' w3 ⟨rfl, hb3⟩
          go_wp2_with fail
          refine (HD4.out _).mono ?_
          rintro e' w2 ⟨rfl, rfl⟩
          go_wp2_with fail
          go_ret
          exact ⟨by rfl, ((Below.refl _ _).more1 HB.out).more hb3⟩
end Go.Proofs.Ytibopfemknnocaa.Def
