import Derived.Test.YthicijpjpijdjaaNf
import Derived.Test.YthicijpjpijdjaaSlConv
import Derived.Test.YthicijpjpijdjaaSlOff
import Derived.Defers
import Derived.Recover
import Derived.WalkKit
import Derived.ProofKit
namespace Go.Proofs.Ythicijpjpijdjaa.Kr
open Go.RowKit Go.Proofs.Ythicijpjpijdjaa Go.Proofs.Ythicijpjpijdjaa.Sl Go.Proofs.Ythicijpjpijdjaa.KyP Go.Proofs.Ythicijpjpijdjaa.Ka Go.Proofs.Ythicijpjpijdjaa.Kb Go.Proofs.Ythicijpjpijdjaa.Kc Go.Proofs.Ythicijpjpijdjaa.Kd Go.Proofs.Ythicijpjpijdjaa.Ke Go.Proofs.Ythicijpjpijdjaa.Kf Go.Proofs.Ythicijpjpijdjaa.Kg Go.Proofs.Ythicijpjpijdjaa.Kh Go.Proofs.Ythicijpjpijdjaa.Ki Go.Proofs.Ythicijpjpijdjaa.Kj Go.Proofs.Ythicijpjpijdjaa.Kk Go.Proofs.Ythicijpjpijdjaa.Kl Go.Proofs.Ythicijpjpijdjaa.Km Go.Proofs.Ythicijpjpijdjaa.Kn Go.Proofs.Ythicijpjpijdjaa.Ko Go.Proofs.Ythicijpjpijdjaa.Kp Go.Proofs.Ythicijpjpijdjaa.Kq
set_option linter.unusedVariables false
set_option linter.unusedSimpArgs false
set_option linter.unusedSectionVars false

set_option maxRecDepth 100000 in
set_option maxHeartbeats 2000000 in
theorem findg_slice (A : HProp) (md : Rv) (at_ : Int) (l : List GV) (hsm : Small (l.map (·.1))) (hin : ∀ p ∈ l, Rd A 2 Rv.cells p.2 p.1.revs) (sa : Option Addr) (sc : Nat) (hva : Rd A 4 GV.cells (.slice sa l.length sc) l) : Does Try.prog 18 [.agg #[.int .i64 (md.m), .int .i64 (md.s), .slice sa l.length sc], .int .i64 (at_)] [A] (fun v L => v = .int .i64 (fg (l.map (·.1)) at_ l.length) ∧ L = [A]) := by
 refine Does.enter 12 Try.func18 rfl rfl rfl fun W F => ?_
 show WPc _ _ _ _ _ [(0, .agg #[.int .i64 (md.m), .int .i64 (md.s), .slice sa l.length sc]), (1, .int .i64 (at_))] (A :: F)
 refine WPc.sr ?_
 refine WP.eff rfl rfl rfl (Eff.box (C := [.int .i64 (md.m), .int .i64 (md.s), .slice sa l.length sc]) rfl rfl rfl) ?_
 rintro _ _ ⟨b1, rfl, rfl⟩
 refine WP.val rfl rfl rfl (Val.assign rfl rfl) ?_
 refine WP.nx ?_
 refine WPc.sr ?_
 refine WP.eff rfl rfl rfl (Eff.mkSliceO (e := 5) (C := [.int .u8 107]) rfl rfl (fun _ => by kernel_rfl)) ?_
 rintro _ _ ⟨kb, rfl, rfl⟩
 refine WP.eff rfl rfl rfl (Eff.convRow rfl Ty.by80 rfl) ?_
 rintro _ _ ⟨rfl, rfl⟩
 refine WP.val rfl rfl rfl (Val.loadAgg (cs := [.int .i64 (md.m), .int .i64 (md.s), .slice sa l.length sc]) rfl Ty.ag35 rfl rfl (fun w h => h.range 1 rfl rfl)) ?_
 refine WP.perm pl2 ?_
 refine WP.eff rfl rfl rfl (Eff.call rfl rfl Try.call32 (dumpin_spec A md l hsm hin (.slice sa l.length sc) hva)) ?_
 rintro _ _ ⟨_, ⟨v2, g2, rfl, hg2, rfl⟩, rfl⟩
 show WP _ _ _ _ _ _ _ (Own 135 4 v2 g2.length (flatOf GV.cells g2) :: Kds (GVPe 81) g2 :: _ :: Blk kb [.int .u8 107] 5 :: Blk b1 [.int .i64 (md.m), .int .i64 (md.s), .slice sa l.length sc] 35 :: _)
 refine WP.perm pl1 ?_
 refine WP.perm pl1 ?_
 refine WP.open (fun w h => gens_open h) ?_
 rintro E2
 refine WP.pure (fun hE2 => ?_)
 obtain ⟨rE2, backE2⟩ := hE2
 show WP _ _ _ _ _ _ _ (E2 :: _)
 have hs2 : Small (g2.map (·.1)) := by rw [hg2]; exact hsm
 refine WP.eff rfl rfl rfl (Eff.call rfl rfl Try.call31 (newkey_spec E2 (some ⟨kb, 0, none⟩) 1 1 md g2 hs2 v2 rE2)) ?_
 rintro _ _ ⟨_, ⟨b, v3, g3, rfl, hg3, rfl⟩, rfl⟩
 show WP _ _ _ _ _ _ _ (Blk b [.slice (some ⟨kb, 0, none⟩) 1 1, .int .i64 (md.m), .int .i64 (md.s), v3] 153 :: Own 155 4 v3 g3.length (flatOf GV.cells g3) :: Kds (GVPe 81) g3 :: _)
 refine WP.perm pl2 ?_
 refine WP.perm pl2 ?_
 refine WP.open (fun w h => gens_open h) ?_
 rintro E3
 refine WP.pure (fun hE3 => ?_)
 obtain ⟨rE3, backE3⟩ := hE3
 show WP _ _ _ _ _ _ _ (E3 :: _)
 have hs3 : Small (g3.map (·.1)) := by rw [hg3]; exact hs2
 refine WP.val rfl rfl rfl (Val.move rfl rfl) ?_
 refine WP.perm pl1 ?_
 refine WP.eff rfl rfl rfl (Eff.call rfl rfl Try.call37 (find_spec E3 b (some ⟨kb, 0, none⟩) 1 1 md at_ g3 hs3 rE3.inn v3 rE3.rd)) ?_
 rintro _ _ ⟨_, ⟨rfl, rfl⟩, rfl⟩
 refine WP.val rfl rfl rfl (Val.assign rfl rfl) ?_
 refine WP.nx ?_
 refine WPc.ret ?_
 iterate 3 (refine Out.drop ?_)
 refine Out.perm pl1 ?_
 refine Out.drop ?_
 refine Out.perm pl1 ?_
 refine Out.drop ?_
 exact Out.ret1 (L' := _) Try.results18 rfl ⟨congrArg (Value.int .i64) (show _ = fg (l.map (·.1)) at_ l.length by rw [hg3, hg2, show g3.length = l.length from by have h9 := congrArg List.length (hg3.trans hg2); simpa using h9]), rfl⟩ (fun _ h => h)
theorem findg_spec (A : HProp) (md : Rv) (at_ : Int) (l : List GV) (hsm : Small (l.map (·.1))) (va : Value) (hva : RdG A va l) : Does Try.prog 18 [.agg #[.int .i64 md.m, .int .i64 md.s, va], .int .i64 at_] [A] (fun v L => v = .int .i64 (fg (l.map (·.1)) at_ l.length) ∧ L = [A]) := by
 obtain ⟨sa, sc, rfl⟩ := Rd.slice hva.rd
 exact findg_slice A md at_ l hsm hva.inn sa sc hva.rd

end Go.Proofs.Ythicijpjpijdjaa.Kr

/-! a call that is guarded against a panic -/
namespace Go.Proofs.Ythicijpjpijdjaa.Ks
open Go.RowKit Go.Lib Go.Proofs.Ythicijpjpijdjaa Go.Proofs.Ythicijpjpijdjaa.Sl
set_option linter.unusedVariables false
set_option linter.unusedSimpArgs false
structure Box (p : Prop) : Prop where
  out : p
theorem catch_idle (p : Addr) (w : World) :
    CallsD Try.prog 65 #[.pointer (some p)] .returning w fun e u' w' => e = .returned (.tuple #[]) ∧ u' = .returning ∧ w = w' := by
  refine callsD_of_wpS Try.func65 rfl fun c₀ cs hu => ?_
  apply wpS_seq
  apply wpS_region
  simp [wpOpsS, go_sem, recoverD, hu, Try.ntmps65, Exit.thenS]
  refine wpS_cond (t := false) (by simp [Act.eval, Array.replicate]) ?_
  simp only [Bool.false_eq_true, if_false]
  refine wpS_of_wp (wp_skip ?_)
  cases c₀
  simp_all [bodyPostS, results, Try.results65]
theorem mkf (fn : Fn) (first cap : Array Value) (w : World) : (Instr.makeFunc fn first cap).run Try.prog w = .ok (.func fn first cap) w := rfl
def FinePost (b : Bool) (B : Nat) (G : World → Prop) (e : Ending) (w' : World) : Prop := ∃ w1, G w1 ∧ e = .returned (.bool b) ∧ w1.setCell ⟨B, 0, none⟩ (.bool b) = w'
theorem fine_ok (w : World) (k : FuncId) (caps : Array Value) (G : World → Prop) (he : ∀ args w, (callFunc k args).run Try.prog w = .ok (.enter k args) w)
    (hc : Calls Try.prog k caps (w.alloc (.cells #[.bool false] 4)) fun e w' => e = .returned (.tuple #[]) ∧ G w')
    (hG : ∀ w', G w' → w'.cell? ⟨w.heap.size, 0, none⟩ = some (.bool false) ∧ w'.frozen? ⟨w.heap.size, 0, none⟩ = false) :
    Calls Try.prog 33 #[.func (.func k) #[] caps] w (FinePost true w.heap.size G) := by
  have hmf := mkf
  have HC : Box _ := ⟨hc⟩
  have HG : Box _ := ⟨hG⟩
  clear hc hG
  go_enter_defers Try.func33, Try.ntmps33
  go_wp2_with fail
  refine HC.out.mono ?_
  rintro e w1 ⟨rfl, hg⟩
  obtain ⟨h1, h2⟩ := HG.out _ hg
  go_wp2_with fail
  refine leaves_cons (f := 65) (args := #[.pointer (some ⟨w.heap.size, 0, none⟩)]) (by simp) (by simp [go_sem]) ?_
  refine (catch_idle ⟨w.heap.size, 0, none⟩ _).mono ?_
  rintro e u' w'' ⟨rfl, rfl, rfl⟩
  have e : (w1.setCell ⟨w.heap.size, 0, none⟩ (.bool true)).cell? ⟨w.heap.size, 0, none⟩ = some (.bool true) := World.cell?_setCell_same _ _ _ h1
  simp [Leaves, settle, results, Try.results33, go_sem, e]
  exact ⟨w1, hg, rfl, rfl⟩
/-- what is called answers; so does the guarded call -/
theorem fine_does {k : FuncId} {caps : List Value} {L : List HProp} {R : List HProp → Prop} (he : ∀ args w, (callFunc k args).run Try.prog w = .ok (.enter k args) w)
    (h : Does Try.prog k caps L (fun v L' => v = .tuple #[] ∧ R L')) : Does Try.prog 33 [.func (.func k) #[] caps.toArray] L (fun v L' => v = .bool true ∧ R L') := by
  intro W F w hs
  have hs1 : Sat W (L ++ (Blk w.heap.size [.bool false] 4 :: F)) (w.alloc (.cells #[.bool false] 4)) :=
    (hs.blk [.bool false] 4).perm List.perm_middle.symm
  refine (fine_ok w k caps.toArray (fun w' => ∃ L', R L' ∧ Sat W (L' ++ (Blk w.heap.size [.bool false] 4 :: F)) w') he ?_ ?_).mono ?_
  · refine (h W (Blk w.heap.size [.bool false] 4 :: F) _ hs1).mono ?_
    rintro e w' ⟨v, L', rfl, ⟨rfl, hR⟩, hs'⟩
    exact ⟨rfl, L', hR, hs'⟩
  · rintro w' ⟨L', hR, hs'⟩
    have h1 : Sat W (Blk w.heap.size [.bool false] 4 :: (L' ++ F)) w' := hs'.perm List.perm_middle
    exact ⟨by rw [h1.head.cell]; rfl, h1.head.free (by simp)⟩
  · rintro e w' ⟨w1, ⟨L', hR, hs'⟩, rfl, rfl⟩
    have h1 : Sat W (Blk w.heap.size [.bool false] 4 :: (L' ++ F)) w1 := hs'.perm List.perm_middle
    exact ⟨.bool true, L', rfl, ⟨rfl, hR⟩, (h1.set (.bool true)).drop⟩
end Go.Proofs.Ythicijpjpijdjaa.Ks

namespace Go.Proofs.Ythicijpjpijdjaa.Kt
open Go.RowKit Go.Proofs.Ythicijpjpijdjaa Go.Proofs.Ythicijpjpijdjaa.Sl Go.Proofs.Ythicijpjpijdjaa.KyP Go.Proofs.Ythicijpjpijdjaa.Ka Go.Proofs.Ythicijpjpijdjaa.Kb Go.Proofs.Ythicijpjpijdjaa.Kc Go.Proofs.Ythicijpjpijdjaa.Kd Go.Proofs.Ythicijpjpijdjaa.Ke Go.Proofs.Ythicijpjpijdjaa.Kf Go.Proofs.Ythicijpjpijdjaa.Kg Go.Proofs.Ythicijpjpijdjaa.Kh Go.Proofs.Ythicijpjpijdjaa.Ki Go.Proofs.Ythicijpjpijdjaa.Kj Go.Proofs.Ythicijpjpijdjaa.Kk Go.Proofs.Ythicijpjpijdjaa.Kl Go.Proofs.Ythicijpjpijdjaa.Km Go.Proofs.Ythicijpjpijdjaa.Kn Go.Proofs.Ythicijpjpijdjaa.Ko Go.Proofs.Ythicijpjpijdjaa.Kp Go.Proofs.Ythicijpjpijdjaa.Kq Go.Proofs.Ythicijpjpijdjaa.Kr Go.Proofs.Ythicijpjpijdjaa.Ks
set_option linter.unusedVariables false
set_option linter.unusedSimpArgs false
set_option linter.unusedSectionVars false


theorem less_lt {a b : Rv} : decide (less a b) = decide (a.m < b.m ∨ (a.m = b.m ∧ a.s < b.s)) := rfl
set_option maxRecDepth 100000 in
set_option maxHeartbeats 2000000 in
theorem gt_spec (a b : Rv) : Does Try.prog 111 [.agg #[.int .i64 (a.m), .int .i64 (a.s)], .agg #[.int .i64 (b.m), .int .i64 (b.s)]] [] (fun v L => v = .bool (decide (less b a)) ∧ L = []) := by
 refine Does.enter 20 Try.func111 rfl rfl rfl fun W F => ?_
 show WPc _ _ _ _ _ [(0, .agg #[.int .i64 (a.m), .int .i64 (a.s)]), (1, .agg #[.int .i64 (b.m), .int .i64 (b.s)])] (F)
 refine WPc.sr ?_
 refine WP.eff rfl rfl rfl (Eff.box (C := [.int .i64 (a.m), .int .i64 (a.s)]) rfl rfl rfl) ?_
 rintro _ _ ⟨b1, rfl, rfl⟩
 refine WP.eff rfl rfl rfl (Eff.box (C := [.int .i64 (b.m), .int .i64 (b.s)]) rfl rfl rfl) ?_
 rintro _ _ ⟨b2, rfl, rfl⟩
 refine WP.val rfl rfl rfl (Val.assign rfl rfl) ?_
 refine WP.nx ?_
 refine WPc.seq ?_
 refine WPc.sr ?_
 refine WP.val rfl rfl rfl (Val.fieldAddr (j := 0) rfl Ty.fo81_0 rfl rfl) ?_
 refine WP.val rfl rfl rfl (Val.load rfl Ty.sc2 rfl (fun w h => h.cell 1 rfl rfl)) ?_
 refine WP.val rfl rfl rfl (Val.fieldAddr (j := 0) rfl Ty.fo81_0 rfl rfl) ?_
 refine WP.val rfl rfl rfl (Val.load rfl Ty.sc2 rfl (fun w h => h.cell 0 rfl rfl)) ?_
 refine WP.val rfl rfl rfl (Val.gtr rfl rfl rfl) ?_
 refine WP.nx ?_
 refine WPc.ifP rfl (fun h1 => ?_) (fun h1 => ?_)
 ·
  have h1 : (b.m < a.m) := h1
  refine WPc.sr ?_
  refine WP.val rfl rfl rfl (Val.assign rfl rfl) ?_
  refine WP.nx ?_
  refine WPc.ret ?_
  refine Out.then_ret ?_
  refine Out.drop ?_
  refine Out.drop ?_
  exact Out.ret1 (L' := []) Try.results111 rfl ⟨congrArg Value.bool (show _ = decide (less b a) by rw [decide_eq_true (by unfold less; omega)]), rfl⟩ (fun _ h => h)
 ·
  have h1 : ¬ (b.m < a.m) := h1
  refine WPc.skip ?_
  refine Out.next ?_
  refine WPc.seq ?_
  refine WPc.sr ?_
  refine WP.val rfl rfl rfl (Val.fieldAddr (j := 0) rfl Ty.fo81_0 rfl rfl) ?_
  refine WP.val rfl rfl rfl (Val.load rfl Ty.sc2 rfl (fun w h => h.cell 1 rfl rfl)) ?_
  refine WP.val rfl rfl rfl (Val.fieldAddr (j := 0) rfl Ty.fo81_0 rfl rfl) ?_
  refine WP.val rfl rfl rfl (Val.load rfl Ty.sc2 rfl (fun w h => h.cell 0 rfl rfl)) ?_
  refine WP.val rfl rfl rfl (Val.lss rfl rfl rfl) ?_
  refine WP.nx ?_
  refine WPc.ifP rfl (fun h2 => ?_) (fun h2 => ?_)
  ·
   have h2 : (a.m < b.m) := h2
   refine WPc.sr ?_
   refine WP.val rfl rfl rfl (Val.assign rfl rfl) ?_
   refine WP.nx ?_
   refine WPc.ret ?_
   refine Out.then_ret ?_
   refine Out.drop ?_
   refine Out.drop ?_
   exact Out.ret1 (L' := []) Try.results111 rfl ⟨congrArg Value.bool (show _ = decide (less b a) by rw [decide_eq_false (by unfold less; omega)]), rfl⟩ (fun _ h => h)
  ·
   have h2 : ¬ (a.m < b.m) := h2
   refine WPc.skip ?_
   refine Out.next ?_
   refine WPc.sr ?_
   refine WP.val rfl rfl rfl (Val.fieldAddr (j := 1) rfl Ty.fo81_1 rfl rfl) ?_
   refine WP.val rfl rfl rfl (Val.load rfl Ty.sc2 rfl (fun w h => h.cell 1 rfl rfl)) ?_
   refine WP.val rfl rfl rfl (Val.fieldAddr (j := 1) rfl Ty.fo81_1 rfl rfl) ?_
   refine WP.val rfl rfl rfl (Val.load rfl Ty.sc2 rfl (fun w h => h.cell 0 rfl rfl)) ?_
   refine WP.val rfl rfl rfl (Val.gtr rfl rfl rfl) ?_
   refine WP.val rfl rfl rfl (Val.assign rfl rfl) ?_
   refine WP.nx ?_
   refine WPc.ret ?_
   refine Out.drop ?_
   refine Out.drop ?_
   exact Out.ret1 (L' := []) Try.results111 rfl ⟨congrArg Value.bool (show _ = decide (less b a) by exact decide_eq_decide.2 (by unfold less; omega)), rfl⟩ (fun _ h => h)
set_option maxRecDepth 100000 in
set_option maxHeartbeats 2000000 in
theorem revout_spec (r : Rv) : Does Try.prog 71 [.agg #[.int .i64 (r.m), .int .i64 (r.s)]] [] (fun v L => v = rk r ∧ L = []) := by
 refine Does.enter 8 Try.func71 rfl rfl rfl fun W F => ?_
 show WPc _ _ _ _ _ [(0, .agg #[.int .i64 (r.m), .int .i64 (r.s)])] (F)
 refine WPc.sr ?_
 refine WP.eff rfl rfl rfl (Eff.box (C := [.int .i64 (r.m), .int .i64 (r.s)]) rfl rfl rfl) ?_
 rintro _ _ ⟨b1, rfl, rfl⟩
 refine WP.eff rfl rfl rfl (Eff.alloc rfl Ty.z32) ?_
 rintro _ _ ⟨b2, rfl, rfl⟩
 refine WP.nx ?_
 refine WPc.sr ?_
 refine WP.val rfl rfl rfl (Val.fieldAddr (j := 0) rfl Ty.fo81_0 rfl rfl) ?_
 refine WP.val rfl rfl rfl (Val.load rfl Ty.sc2 rfl (fun w h => h.cell 1 rfl rfl)) ?_
 refine WP.val rfl rfl rfl (Val.fieldAddr (j := 1) rfl Ty.fo81_1 rfl rfl) ?_
 refine WP.val rfl rfl rfl (Val.load rfl Ty.sc2 rfl (fun w h => h.cell 1 rfl rfl)) ?_
 refine WP.val rfl rfl rfl (Val.mk (cs := [.int .i64 (r.m), .int .i64 (r.s)]) rfl rfl (fun _ => by kernel_rfl)) ?_
 refine WP.eff0 rfl rfl (Eff.storeAgg (cs := [.int .i64 (r.m), .int .i64 (r.s)]) (C' := [.int .i64 (r.m), .int .i64 (r.s)]) rfl Ty.ag32 rfl rfl rfl rfl (by simp) rfl) ?_
 rintro _ _ rfl
 refine WP.nx ?_
 refine WPc.ret ?_
 refine Out.perm pl1 ?_
 refine Out.drop ?_
 exact Out.retRun (L' := []) (results_cell (cs := _) Try.results71 Ty.ag32 rfl rfl (fun w h => h.range 0 rfl rfl)) ⟨rfl, rfl⟩ (fun w h => h.drop)
set_option maxRecDepth 100000 in
set_option maxHeartbeats 1000000 in
theorem revsout_nil (A : HProp) (a : Option Addr) (c : Nat) : Does Try.prog 72 [.slice a 0 c] [A] (fun v L => L = [Own 32 2 v 0 (flatOf Rv.cells ([] : List Rv)), A]) := by
 refine Does.enter 20 Try.func72 rfl rfl rfl fun W F => ?_
 show WPc _ _ _ _ _ [(0, .slice a 0 c)] (A :: F)
 refine WPc.sr ?_
 refine WP.val rfl rfl rfl (Val.assign rfl rfl) ?_
 refine WP.nx ?_
 refine WPc.sr ?_
 refine WP.val rfl rfl rfl (Val.assign rfl rfl) ?_
 refine WP.nx ?_
 refine WPc.seq ?_
 refine WPc.seq ?_
 refine WPc.conv (fun w h => h.ownNil (e := 32) (k := 2)) ?_
 show WPc _ _ _ _ _ _ (Own 32 2 (.slice none 0 0) 0 ([]) :: _)
 refine WPc.region ?_
 refine WP.val rfl rfl rfl (Val.assign rfl rfl) ?_
 refine WP.nx ?_
 refine WPc.block ?_
 refine WPc.loop (ι := Nat × Value) (fun ⟨i, v⟩ => i ≤ 0) (fun ⟨i, v⟩ => [(0, .slice a 0 c), (3, v), (4, .int .i64 (((i : Nat) : Int)))]) (fun ⟨i, v⟩ => Own 32 2 v ((([] : List Rv).take i).length) (flatOf Rv.cells (([] : List Rv).take i)) :: A :: F) (fun ⟨i, v⟩ => 0 - i) (0, .slice none 0 0) (Nat.zero_le _) ((Sub.cons rfl (Sub.cons rfl (Sub.cons rfl Sub.nil)))) (fun _ h => h) ?_
 rintro ⟨i, v⟩ hi
 show WPc _ _ _ _ _ [(0, _), (3, v), (4, .int .i64 (((i : Nat) : Int)))] (Own 32 2 v ((([] : List Rv).take i).length) (flatOf Rv.cells (([] : List Rv).take i)) :: _)
 replace hi : i ≤ 0 := hi
 have htl : (([] : List Rv).take i).length ≤ i := by rw [List.length_take]; omega
 refine WPc.seq ?_
 refine WPc.sr ?_
 refine WP.val rfl rfl rfl (Val.move rfl rfl) ?_
 refine WP.val rfl rfl rfl (Val.move rfl rfl) ?_
 refine WP.val rfl rfl rfl (Val.len rfl Ty.sl132 rfl) ?_
 refine WP.val rfl rfl rfl (Val.lss rfl rfl rfl) ?_
 refine WP.nx ?_
 refine WPc.ifP rfl (fun h1 => ?_) (fun h1 => ?_)
 ·
  have h1 : (((i : Nat) : Int) < (0 : Int)) := h1
  exfalso; omega
 ·
  have h1 : ¬ (((i : Nat) : Int) < (0 : Int)) := h1
  refine WPc.exit ?_
  refine Out.then_exit ?_
  refine Out.then_exit ?_
  refine Out.block_exit ?_
  refine Out.next ?_
  refine WPc.sr ?_
  refine WP.val rfl rfl rfl (Val.move rfl rfl) ?_
  refine WP.val rfl rfl rfl (Val.assign rfl rfl) ?_
  refine WP.nx ?_
  refine WPc.ret ?_
  have hil : i = 0 := by omega
  exact Out.ret1 (L' := _) Try.results72 rfl rfl (fun w h => by rw [hil] at h; exact h)

set_option maxRecDepth 100000 in
set_option maxHeartbeats 1000000 in
theorem revsout_row (A : HProp) (l : List Rv) (hl : l.length ≤ 200000) (b0 o0 c0 : Nat) (hr : ∀ w, Holds A w → ∀ i x, l[i]? = some x → w.rangeAt b0 (o0 + i * 2) (Rv.cells x)) : Does Try.prog 72 [.slice (some ⟨b0, o0, none⟩) l.length c0] [A] (fun v L => L = [Own 32 2 v l.length (flatOf Rv.cells l), A]) := by
 refine Does.enter 20 Try.func72 rfl rfl rfl fun W F => ?_
 show WPc _ _ _ _ _ [(0, .slice (some ⟨b0, o0, none⟩) l.length c0)] (A :: F)
 refine WPc.sr ?_
 refine WP.val rfl rfl rfl (Val.assign rfl rfl) ?_
 refine WP.nx ?_
 refine WPc.sr ?_
 refine WP.val rfl rfl rfl (Val.assign rfl rfl) ?_
 refine WP.nx ?_
 refine WPc.seq ?_
 refine WPc.seq ?_
 refine WPc.conv (fun w h => h.ownNil (e := 32) (k := 2)) ?_
 show WPc _ _ _ _ _ _ (Own 32 2 (.slice none 0 0) 0 ([]) :: _)
 refine WPc.region ?_
 refine WP.val rfl rfl rfl (Val.assign rfl rfl) ?_
 refine WP.nx ?_
 refine WPc.block ?_
 refine WPc.loop (ι := Nat × Value) (fun ⟨i, v⟩ => i ≤ l.length) (fun ⟨i, v⟩ => [(0, .slice (some ⟨b0, o0, none⟩) l.length c0), (3, v), (4, .int .i64 (((i : Nat) : Int)))]) (fun ⟨i, v⟩ => Own 32 2 v ((l.take i).length) (flatOf Rv.cells (l.take i)) :: A :: F) (fun ⟨i, v⟩ => l.length - i) (0, .slice none 0 0) (Nat.zero_le _) ((Sub.cons rfl (Sub.cons rfl (Sub.cons rfl Sub.nil)))) (fun _ h => h) ?_
 rintro ⟨i, v⟩ hi
 show WPc _ _ _ _ _ [(0, _), (3, v), (4, .int .i64 (((i : Nat) : Int)))] (Own 32 2 v ((l.take i).length) (flatOf Rv.cells (l.take i)) :: _)
 replace hi : i ≤ l.length := hi
 have htl : (l.take i).length ≤ i := by rw [List.length_take]; omega
 refine WPc.seq ?_
 refine WPc.sr ?_
 refine WP.val rfl rfl rfl (Val.move rfl rfl) ?_
 refine WP.val rfl rfl rfl (Val.move rfl rfl) ?_
 refine WP.val rfl rfl rfl (Val.len rfl Ty.sl132 rfl) ?_
 refine WP.val rfl rfl rfl (Val.lss rfl rfl rfl) ?_
 refine WP.nx ?_
 refine WPc.ifP rfl (fun h1 => ?_) (fun h1 => ?_)
 ·
  have h1 : (((i : Nat) : Int) < ((l.length : Nat) : Int)) := h1
  refine WPc.skip ?_
  refine Out.next ?_
  refine WPc.seq ?_
  refine WPc.block ?_
  have hlt : i < l.length := by omega
  obtain ⟨x, hx⟩ : ∃ x, l[i]? = some x := ⟨_, List.getElem?_eq_getElem hlt⟩
  refine WPc.region ?_
  iterate 3 (refine WP.val rfl rfl rfl (Val.move rfl rfl) ?_)
  refine WP.val rfl rfl rfl (Val.indexAddr (j := i) (q := o0 + i * 2) rfl Ty.sl132 rfl rfl (by omega) (by omega) (by omega)) ?_
  refine WP.val rfl rfl rfl (Val.loadAgg (cs := (Rv.cells x)) rfl Ty.ag81 rfl (by rfl) (fun w h => hr w (h.at 1 rfl) i x hx)) ?_
  refine WP.eff rfl rfl rfl (Eff.call rfl rfl Try.call71 (revout_spec ⟨x.m, x.s⟩)) ?_
  rintro _ _ ⟨_, ⟨rfl, rfl⟩, rfl⟩
  refine WP.eff rfl rfl rfl (Eff.mkSlice (C := [.int .i64 (x.m), .int .i64 (x.s)]) rfl Ty.sl40 rfl (fun _ => by kernel_rfl)) ?_
  rintro _ _ ⟨b1, rfl, rfl⟩
  refine WP.perm pl1 ?_
  refine WP.eff rfl rfl rfl (Eff.append (m := 1) (n0 := (l.take i).length) (news := [.int .i64 (x.m), .int .i64 (x.s)]) rfl Ty.sl40 Ty.z32 rfl rfl rfl (.slice Ty.sl40 rfl rfl (fun w h => cells_range (h.range 1 rfl rfl))) (by omega) (by omega)) ?_
  rintro v2 _ ⟨onev2, rfl⟩
  refine WP.val rfl rfl rfl (Val.assign rfl rfl) ?_
  refine WP.nil ?_
  refine Out.block ?_
  refine Out.next ?_
  refine WPc.region ?_
  refine WP.val rfl rfl rfl (Val.move rfl rfl) ?_
  refine WP.val rfl rfl rfl (Val.add (z := ((i + 1 : Nat) : Int)) rfl rfl rfl ((w64 (by omega) (by omega)).trans (by omega))) ?_
  refine WP.val rfl rfl rfl (Val.assign rfl rfl) ?_
  refine WP.nil ?_
  refine Out.perm pl1 ?_
  refine Out.drop ?_
  refine Out.again (i + 1, v2) ?_ ?_ ?_ ?_
  ·
   exact (by show i + 1 ≤ l.length; omega)
  ·
   (dsimp only; omega)
  ·
   exact (Sub.cons rfl (Sub.cons rfl (Sub.cons rfl Sub.nil)))
  ·
   exact (fun w h => by dsimp only; rw [take_more hx, flatOf_append, flatOf_one, List.length_append]; exact h)
 ·
  have h1 : ¬ (((i : Nat) : Int) < ((l.length : Nat) : Int)) := h1
  refine WPc.exit ?_
  refine Out.then_exit ?_
  refine Out.then_exit ?_
  refine Out.block_exit ?_
  refine Out.next ?_
  refine WPc.sr ?_
  refine WP.val rfl rfl rfl (Val.move rfl rfl) ?_
  refine WP.val rfl rfl rfl (Val.assign rfl rfl) ?_
  refine WP.nx ?_
  refine WPc.ret ?_
  have hil : i = l.length := by omega
  exact Out.ret1 (L' := _) Try.results72 rfl rfl (fun w h => by rw [hil, List.take_length] at h; exact h)

theorem revsout_spec (A : HProp) (l : List Rv) (hl : l.length ≤ 200000) (va : Value) (hva : Rd A 2 Rv.cells va l) : Does Try.prog 72 [va] [A] (fun v L => L = [Own 32 2 v l.length (flatOf Rv.cells l), A]) := by
 rcases hva with ⟨b0, o0, c0, rfl, hr⟩ | ⟨rfl, a, c, rfl⟩
 ·
  exact revsout_row A l hl b0 o0 c0 hr
 ·
  exact revsout_nil A a c

theorem againF {W w : World} {e e2 : TypeId} {v : Value} {gi : List GV} {c : List Value} {n : Nat} {p : GV} {L : List HProp} (h : Sat W (Own e 4 v n c :: GVPe e2 p :: Kds (GVPe e2) gi :: L) w) : Sat W (Own e 4 v n c :: Kds (GVPe e2) (gi ++ [p]) :: L) w := by
 have h1 : Sat W (GVPe e2 p :: Kds (GVPe e2) gi :: Own e 4 v n c :: L) w := h.perm ((List.Perm.swap _ _ _).trans (List.Perm.cons _ (List.Perm.swap _ _ _)))
 have h2 := Sat.kPerm (R := GVPe e2) (ms := gi ++ [p]) (by simpa using (List.perm_append_comm (l₁ := [p]) (l₂ := gi))) h1.kConsMk
 exact h2.perm (List.Perm.swap _ _ _)
set_option maxRecDepth 100000 in
set_option maxHeartbeats 2000000 in
theorem zzout_nil (A : HProp) (b : Nat) (ka : Option Addr) (kn kc : Nat) (md : Rv) (a : Option Addr) (c : Nat) : Does Try.prog 106 [.pointer (some ⟨b, 0, none⟩)] [Blk b [.slice ka kn kc, .int .i64 (md.m), .int .i64 (md.s), .slice a 0 c] 153, A] (fun v L => ∃ (v2 : Value) (g2 : List GV), v = .agg #[.int .i64 md.m, .int .i64 md.s, v2] ∧ g2.map (·.1) = ([] : List GV).map (·.1) ∧ L = [Own 135 4 v2 g2.length (flatOf GV.cells g2), Kds (GVPe 81) g2, Blk b [.slice ka kn kc, .int .i64 md.m, .int .i64 md.s, (.slice a 0 c)] 153, A]) := by
 refine Does.enter 35 Try.func106 rfl rfl rfl fun W F => ?_
 show WPc _ _ _ _ _ [(0, .pointer (some ⟨b, 0, none⟩))] (Blk b [.slice ka kn kc, .int .i64 (md.m), .int .i64 (md.s), .slice a 0 c] 153 :: A :: F)
 refine WPc.sr ?_
 refine WP.eff rfl rfl rfl (Eff.alloc rfl Ty.z84) ?_
 rintro _ _ ⟨b1, rfl, rfl⟩
 refine WP.nx ?_
 refine WPc.sr ?_
 refine WP.val rfl rfl rfl (Val.move rfl rfl) ?_
 refine WP.val rfl rfl rfl (Val.nilCheck rfl rfl) ?_
 refine WP.val rfl rfl rfl (Val.fieldAddr (j := 1) rfl Ty.fo153_1 rfl rfl) ?_
 refine WP.val rfl rfl rfl (Val.loadAgg (cs := [.int .i64 (md.m), .int .i64 (md.s)]) rfl Ty.ag81 rfl rfl (fun w h => h.range 1 rfl rfl)) ?_
 refine WP.val rfl rfl rfl (Val.mk (cs := [.int .i64 (md.m), .int .i64 (md.s), .slice none 0 0]) rfl rfl (fun _ => by kernel_rfl)) ?_
 refine WP.eff rfl rfl rfl (Eff.alloc rfl Ty.z84) ?_
 rintro _ _ ⟨b2, rfl, rfl⟩
 refine WP.eff0 rfl rfl (Eff.storeAgg (cs := [.int .i64 (md.m), .int .i64 (md.s), .slice none 0 0]) (C' := [.int .i64 (md.m), .int .i64 (md.s), .slice none 0 0]) rfl Ty.ag84 rfl rfl rfl rfl (by simp) rfl) ?_
 rintro _ _ rfl
 refine WP.nx ?_
 refine WPc.seq ?_
 refine WPc.seq ?_
 refine WPc.conv (fun w h => Sat.kNil (R := GVPe 81) h) ?_
 refine WPc.conv (fun w h => h.ownNil (e := 135) (k := 4)) ?_
 show WPc _ _ _ _ _ _ (Own 135 4 (.slice none 0 0) 0 ([]) :: Kds (GVPe 81) [] :: Blk b2 [.int .i64 (md.m), .int .i64 (md.s), .slice none 0 0] 84 :: Blk b1 [.int .i64 0, .int .i64 0, .slice none 0 0] 84 :: _)
 refine WPc.region ?_
 refine WP.val rfl rfl rfl (Val.move rfl rfl) ?_
 refine WP.val rfl rfl rfl (Val.nilCheck rfl rfl) ?_
 refine WP.val rfl rfl rfl (Val.fieldAddr (j := 3) rfl Ty.fo153_2 rfl rfl) ?_
 refine WP.val rfl rfl rfl (Val.load rfl Ty.sc151 rfl (fun w h => h.cell 4 rfl rfl)) ?_
 refine WP.val rfl rfl rfl (Val.len rfl Ty.sl151 rfl) ?_
 refine WP.val rfl rfl rfl (Val.move rfl rfl) ?_
 refine WP.nx ?_
 refine WPc.block ?_
 refine WPc.loop (ι := Nat × Value × List GV) (fun ⟨i, v3, g2⟩ => i ≤ 0 ∧ g2.map (·.1) = (([] : List GV).take i).map (·.1)) (fun ⟨i, v3, g2⟩ => [(2, .pointer (some ⟨b1, 0, none⟩)), (3, .pointer (some ⟨b2, 0, none⟩)), (14, .slice a 0 c), (15, .int .i64 0), (16, .int .i64 (((i : Nat) : Int)))]) (fun ⟨i, v3, g2⟩ => Own 135 4 v3 g2.length (flatOf GV.cells g2) :: Kds (GVPe 81) g2 :: Blk b2 [.int .i64 (md.m), .int .i64 (md.s), v3] 84 :: Blk b1 [.int .i64 0, .int .i64 0, .slice none 0 0] 84 :: Blk b [.slice ka kn kc, .int .i64 (md.m), .int .i64 (md.s), .slice a 0 c] 153 :: A :: F) (fun ⟨i, v3, g2⟩ => 0 - i) (0, .slice none 0 0, []) ⟨Nat.zero_le _, rfl⟩ ((Sub.cons rfl (Sub.cons rfl (Sub.cons rfl (Sub.cons rfl (Sub.cons rfl Sub.nil)))))) (fun _ h => h) ?_
 rintro ⟨i, v3, g2⟩ ⟨hi, hg2⟩
 show WPc _ _ _ _ _ [(2, .pointer (some ⟨b1, 0, none⟩)), (3, .pointer (some ⟨b2, 0, none⟩)), (14, .slice a 0 c), (15, .int .i64 0), (16, .int .i64 (((i : Nat) : Int)))] (Own 135 4 v3 g2.length (flatOf GV.cells g2) :: Kds (GVPe 81) g2 :: Blk b2 [.int .i64 (md.m), .int .i64 (md.s), v3] 84 :: _)
 replace hi : i ≤ 0 := hi
 replace hg2 : g2.map (·.1) = (([] : List GV).take i).map (·.1) := hg2
 have hgn := congrArg List.length hg2
 rw [List.length_map, List.length_map, List.length_take] at hgn
 refine WPc.sr ?_
 refine WP.val rfl rfl rfl (Val.lss rfl rfl rfl) ?_
 refine WP.nx ?_
 refine WPc.seq ?_
 refine WPc.ifP rfl (fun h1 => ?_) (fun h1 => ?_)
 ·
  have h1 : (((i : Nat) : Int) < (0 : Int)) := h1
  exfalso; omega
 ·
  have h1 : ¬ (((i : Nat) : Int) < (0 : Int)) := h1
  refine WPc.exit ?_
  refine Out.then_exit ?_
  refine Out.then_exit ?_
  refine Out.block_exit ?_
  refine Out.next ?_
  refine WPc.seq ?_
  refine WPc.fact (fun w h => own_oneCell h) (fun on3 => ?_)
  refine WPc.region ?_
  refine WP.val rfl rfl rfl (Val.loadAgg (cs := [.int .i64 (md.m), .int .i64 (md.s), v3]) rfl Ty.ag84 rfl rfl (fun w h => h.range 2 rfl rfl)) ?_
  refine WP.perm pl3 ?_
  refine WP.eff0 rfl rfl (Eff.storeAgg (cs := [.int .i64 (md.m), .int .i64 (md.s), v3]) (C' := [.int .i64 (md.m), .int .i64 (md.s), v3]) rfl Ty.ag84 rfl rfl rfl (by simp only [List.all_cons, List.all_nil, Bool.and_true, oc_int, oc_str, oc_bool, oc_ptr, oc_slice, oc_iface, oc_map, on3]) (by simp) rfl) ?_
  rintro _ _ rfl
  refine WP.nx ?_
  refine WPc.ret ?_
  have hil : i = 0 := by omega
  rw [hil] at hg2
  refine Out.perm pl3 ?_
  refine Out.drop ?_
  exact Out.retRun (L' := _) (results_cell (cs := _) Try.results106 Ty.ag84 rfl rfl (fun w h => h.range 0 rfl rfl)) ⟨v3, g2, rfl, hg2, rfl⟩ (fun w h => h.drop)

set_option maxRecDepth 100000 in
set_option maxHeartbeats 2000000 in
theorem zzout_row (A : HProp) (b : Nat) (ka : Option Addr) (kn kc : Nat) (md : Rv) (l : List GV) (hsm : Small (l.map (·.1))) (hin : ∀ p ∈ l, Rd A 2 Rv.cells p.2 p.1.revs) (b0 o0 c0 : Nat) (hr : ∀ w, Holds A w → ∀ i x, l[i]? = some x → w.rangeAt b0 (o0 + i * 4) (GV.cells x)) : Does Try.prog 106 [.pointer (some ⟨b, 0, none⟩)] [Blk b [.slice ka kn kc, .int .i64 (md.m), .int .i64 (md.s), .slice (some ⟨b0, o0, none⟩) l.length c0] 153, A] (fun v L => ∃ (v2 : Value) (g2 : List GV), v = .agg #[.int .i64 md.m, .int .i64 md.s, v2] ∧ g2.map (·.1) = l.map (·.1) ∧ L = [Own 135 4 v2 g2.length (flatOf GV.cells g2), Kds (GVPe 81) g2, Blk b [.slice ka kn kc, .int .i64 md.m, .int .i64 md.s, (.slice (some ⟨b0, o0, none⟩) l.length c0)] 153, A]) := by
 refine Does.enter 35 Try.func106 rfl rfl rfl fun W F => ?_
 show WPc _ _ _ _ _ [(0, .pointer (some ⟨b, 0, none⟩))] (Blk b [.slice ka kn kc, .int .i64 (md.m), .int .i64 (md.s), .slice (some ⟨b0, o0, none⟩) l.length c0] 153 :: A :: F)
 refine WPc.sr ?_
 refine WP.eff rfl rfl rfl (Eff.alloc rfl Ty.z84) ?_
 rintro _ _ ⟨b1, rfl, rfl⟩
 refine WP.nx ?_
 refine WPc.sr ?_
 refine WP.val rfl rfl rfl (Val.move rfl rfl) ?_
 refine WP.val rfl rfl rfl (Val.nilCheck rfl rfl) ?_
 refine WP.val rfl rfl rfl (Val.fieldAddr (j := 1) rfl Ty.fo153_1 rfl rfl) ?_
 refine WP.val rfl rfl rfl (Val.loadAgg (cs := [.int .i64 (md.m), .int .i64 (md.s)]) rfl Ty.ag81 rfl rfl (fun w h => h.range 1 rfl rfl)) ?_
 refine WP.val rfl rfl rfl (Val.mk (cs := [.int .i64 (md.m), .int .i64 (md.s), .slice none 0 0]) rfl rfl (fun _ => by kernel_rfl)) ?_
 refine WP.eff rfl rfl rfl (Eff.alloc rfl Ty.z84) ?_
 rintro _ _ ⟨b2, rfl, rfl⟩
 refine WP.eff0 rfl rfl (Eff.storeAgg (cs := [.int .i64 (md.m), .int .i64 (md.s), .slice none 0 0]) (C' := [.int .i64 (md.m), .int .i64 (md.s), .slice none 0 0]) rfl Ty.ag84 rfl rfl rfl rfl (by simp) rfl) ?_
 rintro _ _ rfl
 refine WP.nx ?_
 refine WPc.seq ?_
 refine WPc.seq ?_
 refine WPc.conv (fun w h => Sat.kNil (R := GVPe 81) h) ?_
 refine WPc.conv (fun w h => h.ownNil (e := 135) (k := 4)) ?_
 show WPc _ _ _ _ _ _ (Own 135 4 (.slice none 0 0) 0 ([]) :: Kds (GVPe 81) [] :: Blk b2 [.int .i64 (md.m), .int .i64 (md.s), .slice none 0 0] 84 :: Blk b1 [.int .i64 0, .int .i64 0, .slice none 0 0] 84 :: _)
 refine WPc.region ?_
 refine WP.val rfl rfl rfl (Val.move rfl rfl) ?_
 refine WP.val rfl rfl rfl (Val.nilCheck rfl rfl) ?_
 refine WP.val rfl rfl rfl (Val.fieldAddr (j := 3) rfl Ty.fo153_2 rfl rfl) ?_
 refine WP.val rfl rfl rfl (Val.load rfl Ty.sc151 rfl (fun w h => h.cell 4 rfl rfl)) ?_
 refine WP.val rfl rfl rfl (Val.len rfl Ty.sl151 rfl) ?_
 refine WP.val rfl rfl rfl (Val.move rfl rfl) ?_
 refine WP.nx ?_
 refine WPc.block ?_
 refine WPc.loop (ι := Nat × Value × List GV) (fun ⟨i, v3, g2⟩ => i ≤ l.length ∧ g2.map (·.1) = (l.take i).map (·.1)) (fun ⟨i, v3, g2⟩ => [(2, .pointer (some ⟨b1, 0, none⟩)), (3, .pointer (some ⟨b2, 0, none⟩)), (14, .slice (some ⟨b0, o0, none⟩) l.length c0), (15, .int .i64 (((l.length : Nat) : Int))), (16, .int .i64 (((i : Nat) : Int)))]) (fun ⟨i, v3, g2⟩ => Own 135 4 v3 g2.length (flatOf GV.cells g2) :: Kds (GVPe 81) g2 :: Blk b2 [.int .i64 (md.m), .int .i64 (md.s), v3] 84 :: Blk b1 [.int .i64 0, .int .i64 0, .slice none 0 0] 84 :: Blk b [.slice ka kn kc, .int .i64 (md.m), .int .i64 (md.s), .slice (some ⟨b0, o0, none⟩) l.length c0] 153 :: A :: F) (fun ⟨i, v3, g2⟩ => l.length - i) (0, .slice none 0 0, []) ⟨Nat.zero_le _, rfl⟩ ((Sub.cons rfl (Sub.cons rfl (Sub.cons rfl (Sub.cons rfl (Sub.cons rfl Sub.nil)))))) (fun _ h => h) ?_
 rintro ⟨i, v3, g2⟩ ⟨hi, hg2⟩
 show WPc _ _ _ _ _ [(2, .pointer (some ⟨b1, 0, none⟩)), (3, .pointer (some ⟨b2, 0, none⟩)), (14, .slice (some ⟨b0, o0, none⟩) l.length c0), (15, .int .i64 (((l.length : Nat) : Int))), (16, .int .i64 (((i : Nat) : Int)))] (Own 135 4 v3 g2.length (flatOf GV.cells g2) :: Kds (GVPe 81) g2 :: Blk b2 [.int .i64 (md.m), .int .i64 (md.s), v3] 84 :: _)
 replace hi : i ≤ l.length := hi
 replace hg2 : g2.map (·.1) = (l.take i).map (·.1) := hg2
 have hgn := congrArg List.length hg2
 rw [List.length_map, List.length_map, List.length_take] at hgn
 have hlen := hsm.len
 refine WPc.sr ?_
 refine WP.val rfl rfl rfl (Val.lss rfl rfl rfl) ?_
 refine WP.nx ?_
 refine WPc.seq ?_
 refine WPc.ifP rfl (fun h1 => ?_) (fun h1 => ?_)
 ·
  have h1 : (((i : Nat) : Int) < ((l.length : Nat) : Int)) := h1
  refine WPc.skip ?_
  refine Out.next ?_
  refine WPc.seq ?_
  refine WPc.block ?_
  refine WPc.seq ?_
  have hlt : i < l.length := by omega
  obtain ⟨x, hx⟩ : ∃ x, l[i]? = some x := ⟨_, List.getElem?_eq_getElem hlt⟩
  have hxm : x ∈ l := List.mem_iff_getElem?.2 ⟨_, hx⟩
  have onx := Rd.one (hin x hxm)
  have hsx := hsm.inn hxm
  refine WPc.region ?_
  refine WP.val rfl rfl rfl (Val.indexAddr (j := i) (q := o0 + i * 4) rfl Ty.sl151 rfl rfl (by omega) (by omega) (by omega)) ?_
  refine WP.val rfl rfl rfl (Val.loadAgg (cs := (GV.cells x)) rfl Ty.ag155 rfl (by rfl) (fun w h => hr w (h.at 5 rfl) i x hx)) ?_
  refine WP.eff rfl rfl rfl (Eff.alloc rfl Ty.z155) ?_
  rintro _ _ ⟨b3, rfl, rfl⟩
  refine WP.eff0 rfl rfl (Eff.storeAgg (cs := [.int .i64 (x.1.v), .int .i64 (x.1.c.m), .int .i64 (x.1.c.s), x.2]) (C' := [.int .i64 (x.1.v), .int .i64 (x.1.c.m), .int .i64 (x.1.c.s), x.2]) rfl Ty.ag155 rfl rfl rfl (by simp only [List.all_cons, List.all_nil, Bool.and_true, oc_int, oc_str, oc_bool, oc_ptr, oc_slice, oc_iface, oc_map, onx]) (by simp) rfl) ?_
  rintro _ _ rfl
  refine WP.nx ?_
  refine WPD.start (Sat W [Blk b2 [.int .i64 (md.m), .int .i64 (md.s), v3] 84, Blk b3 [.int .i64 (x.1.v), .int .i64 (x.1.c.m), .int .i64 (x.1.c.s), x.2] 155]) Ty.mixed ?_
  refine WPD.tS 0 rfl rfl rfl rfl (fun w h => ((h.perm pl3)).dropEnd (L := [_, _])) (Val.fieldAddr (j := 2) rfl Ty.fo84_1 rfl rfl) ?_
  refine WPD.tL 1 rfl rfl rfl rfl (fun w h => ((h.perm pl3)).dropEnd (L := [_, _])) (Val.load rfl Ty.sc82 rfl (fun w h => h.cell 0 rfl rfl)) ?_
  refine WPD.tS 2 rfl rfl rfl rfl (fun w h => ((h.perm pl3)).dropEnd (L := [_, _])) (Val.fieldAddr (j := 0) rfl Ty.fo155_0 rfl rfl) ?_
  refine WPD.tL 3 rfl rfl rfl rfl (fun w h => ((h.perm pl3)).dropEnd (L := [_, _])) (Val.load rfl Ty.sc2 rfl (fun w h => h.cell 1 rfl rfl)) ?_
  refine WPD.tS 4 rfl rfl rfl rfl (fun w h => ((h.perm pl3)).dropEnd (L := [_, _])) (Val.fieldAddr (j := 1) rfl Ty.fo155_1 rfl rfl) ?_
  refine WPD.tL 5 rfl rfl rfl rfl (fun w h => ((h.perm pl3)).dropEnd (L := [_, _])) (Val.loadAgg (cs := [.int .i64 (x.1.c.m), .int .i64 (x.1.c.s)]) rfl Ty.ag81 rfl rfl (fun w h => h.range 1 rfl rfl)) ?_
  refine WPD.tS 6 rfl rfl rfl rfl (fun w h => ((h.perm pl3)).dropEnd (L := [_, _])) (Val.fieldAddr (j := 3) rfl Ty.fo155_2 rfl rfl) ?_
  refine WPD.tL 7 rfl rfl rfl rfl (fun w h => ((h.perm pl3)).dropEnd (L := [_, _])) (Val.load rfl Ty.sc132 rfl (fun w h => h.cell 1 rfl rfl)) ?_
  refine WPD.conv (fun w h => h.ownNil (e := 81) (k := 2)) ?_
  show WPD _ _ _ _ _ _ _ _ _ (Own 81 2 (.slice none 0 0) 0 ([]) :: Blk b3 [.int .i64 (x.1.v), .int .i64 (x.1.c.m), .int .i64 (x.1.c.s), x.2] 155 :: _)
  refine WPD.step 8 (by kernel_rfl) rfl rfl rfl rfl (Eff.append (m := x.1.revs.length) (n0 := 0) (news := flatOf Rv.cells x.1.revs) rfl Ty.sl132 Ty.z81 rfl rfl rfl (Srcs.rdR Ty.sl132 Rv.len (rv_one _) (hin x hxm) 7 rfl) (by omega) (by omega)) ?_
  rintro v4 _ ⟨onev4, rfl⟩
  refine ⟨(fun w h => (((h.perm pl1).perm pl4)).dropEnd (L := [_, _])), ?_⟩
  refine WPD.fact (fun w h => own_slice h) (fun hsl5 => ?_)
  obtain ⟨a5, k5, rfl⟩ := hsl5
  show WPD _ _ _ _ _ _ _ _ _ (Own 81 2 (.slice a5 (0 + x.1.revs.length) k5) (0 + x.1.revs.length) (([]) ++ (flatOf Rv.cells x.1.revs)) :: _)
  refine WPD.tS 9 rfl rfl rfl rfl (fun w h => (((h.perm pl1).perm pl4)).dropEnd (L := [_, _])) (Val.mk (cs := [.int .i64 (x.1.v), .int .i64 (x.1.c.m), .int .i64 (x.1.c.s), .slice a5 (0 + x.1.revs.length) k5]) rfl rfl (fun _ => by kernel_rfl)) ?_
  refine WPD.step 10 (by kernel_rfl) rfl rfl rfl rfl (Eff.mkSlice (C := [.int .i64 (x.1.v), .int .i64 (x.1.c.m), .int .i64 (x.1.c.s), .slice a5 (0 + x.1.revs.length) k5]) rfl Ty.sl82 rfl (fun _ => by kernel_rfl)) ?_
  rintro _ _ ⟨b6, rfl, rfl⟩
  refine ⟨(fun w h => (((h.perm pl2).perm pl5)).dropEnd (L := [_, _])), ?_⟩
  refine WPD.perm pl3 ?_
  refine WPD.stepC 11 (by kernel_rfl) rfl rfl rfl rfl (by kernel_rfl) (Eff.append (m := 1) (n0 := g2.length) (news := [.int .i64 (x.1.v), .int .i64 (x.1.c.m), .int .i64 (x.1.c.s), .slice a5 (0 + x.1.revs.length) k5]) rfl Ty.sl82 Ty.z135 rfl rfl rfl (.slice Ty.sl82 rfl rfl (fun w h => cells_range (h.range 1 rfl rfl))) (by omega) (by omega)) ?_
  rintro v7 _ ⟨onev7, rfl⟩
  refine ⟨_, (fun _ h => h), ?_⟩
  refine WPD.tM 12 rfl rfl rfl rfl (Val.fieldAddr (j := 2) rfl Ty.fo84_1 rfl rfl) ?_
  refine WPD.perm pl5 ?_
  refine WPD.stepC0 13 (by kernel_rfl) rfl rfl rfl (by kernel_rfl) (Eff.store rfl Ty.sc82 rfl rfl onev7 (by simp) st2) ?_
  rintro _ _ rfl
  refine ⟨_, (fun _ h => h), ?_⟩
  refine WPD.done (by kernel_rfl) ?_
  refine Out.block ?_
  refine Out.next ?_
  refine WPc.region ?_
  refine WP.val rfl rfl rfl (Val.add (z := ((i + 1 : Nat) : Int)) rfl rfl rfl ((w64 (by omega) (by omega)).trans (by omega))) ?_
  refine WP.val rfl rfl rfl (Val.move rfl rfl) ?_
  refine WP.nil ?_
  refine Out.perm pl2 ?_
  refine Out.drop ?_
  refine Out.perm pl3 ?_
  refine Out.drop ?_
  iterate 3 (refine Out.perm pl6 ?_)
  refine Out.perm pl3 ?_
  iterate 3 (refine Out.perm pl6 ?_)
  refine Out.again (i + 1, v7, g2 ++ [(x.1, .slice a5 x.1.revs.length k5)]) ?_ ?_ ?_ ?_
  ·
   exact (by show i + 1 ≤ l.length ∧ (g2 ++ [(x.1, _)] : List GV).map (·.1) = (l.take (i + 1)).map (·.1); rw [take_more hx, List.map_append, List.map_append, hg2]; exact ⟨by omega, rfl⟩)
  ·
   (dsimp only; omega)
  ·
   exact (Sub.cons rfl (Sub.cons rfl (Sub.cons rfl (Sub.cons rfl (Sub.cons rfl Sub.nil)))))
  ·
   exact (fun w h => againF (p := (x.1, _)) (by (try simp only [Nat.zero_add, List.nil_append] at h); rw [flatOf_append, flatOf_one, List.length_append]; exact h))
 ·
  have h1 : ¬ (((i : Nat) : Int) < ((l.length : Nat) : Int)) := h1
  refine WPc.exit ?_
  refine Out.then_exit ?_
  refine Out.then_exit ?_
  refine Out.block_exit ?_
  refine Out.next ?_
  refine WPc.seq ?_
  refine WPc.fact (fun w h => own_oneCell h) (fun on3 => ?_)
  refine WPc.region ?_
  refine WP.val rfl rfl rfl (Val.loadAgg (cs := [.int .i64 (md.m), .int .i64 (md.s), v3]) rfl Ty.ag84 rfl rfl (fun w h => h.range 2 rfl rfl)) ?_
  refine WP.perm pl3 ?_
  refine WP.eff0 rfl rfl (Eff.storeAgg (cs := [.int .i64 (md.m), .int .i64 (md.s), v3]) (C' := [.int .i64 (md.m), .int .i64 (md.s), v3]) rfl Ty.ag84 rfl rfl rfl (by simp only [List.all_cons, List.all_nil, Bool.and_true, oc_int, oc_str, oc_bool, oc_ptr, oc_slice, oc_iface, oc_map, on3]) (by simp) rfl) ?_
  rintro _ _ rfl
  refine WP.nx ?_
  refine WPc.ret ?_
  have hil : i = l.length := by omega
  rw [hil, List.take_length] at hg2
  refine Out.perm pl3 ?_
  refine Out.drop ?_
  exact Out.retRun (L' := _) (results_cell (cs := _) Try.results106 Ty.ag84 rfl rfl (fun w h => h.range 0 rfl rfl)) ⟨v3, g2, rfl, hg2, rfl⟩ (fun w h => h.drop)

theorem zzout_spec (A : HProp) (b : Nat) (ka : Option Addr) (kn kc : Nat) (md : Rv) (l : List GV) (hsm : Small (l.map (·.1))) (hin : ∀ p ∈ l, Rd A 2 Rv.cells p.2 p.1.revs) (va : Value) (hva : Rd A 4 GV.cells va l) : Does Try.prog 106 [.pointer (some ⟨b, 0, none⟩)] [Blk b [.slice ka kn kc, .int .i64 (md.m), .int .i64 (md.s), va] 153, A] (fun v L => ∃ (v2 : Value) (g2 : List GV), v = .agg #[.int .i64 md.m, .int .i64 md.s, v2] ∧ g2.map (·.1) = l.map (·.1) ∧ L = [Own 135 4 v2 g2.length (flatOf GV.cells g2), Kds (GVPe 81) g2, Blk b [.slice ka kn kc, .int .i64 md.m, .int .i64 md.s, va] 153, A]) := by
 rcases hva with ⟨b0, o0, c0, rfl, hr⟩ | ⟨rfl, a, c, rfl⟩
 ·
  exact zzout_row A b ka kn kc md l hsm hin b0 o0 c0 hr
 ·
  exact zzout_nil A b ka kn kc md a c
set_option maxRecDepth 100000 in
set_option maxHeartbeats 2000000 in
theorem dumpout_nil (A : HProp) (md : Rv) (a : Option Addr) (c : Nat) : Does Try.prog 78 [.agg #[.int .i64 (md.m), .int .i64 (md.s), .slice a 0 c]] [A] (fun v L => ∃ (v2 : Value) (g2 : List GV), v = .agg #[.int .i64 md.m, .int .i64 md.s, v2] ∧ g2.map (·.1) = ([] : List GV).map (·.1) ∧ L = [Own 53 4 v2 g2.length (flatOf GV.cells g2), Kds (GVPe 32) g2, A]) := by
 refine Does.enter 37 Try.func78 rfl rfl rfl fun W F => ?_
 show WPc _ _ _ _ _ [(0, .agg #[.int .i64 (md.m), .int .i64 (md.s), .slice a 0 c])] (A :: F)
 refine WPc.sr ?_
 refine WP.eff rfl rfl rfl (Eff.box (C := [.int .i64 (md.m), .int .i64 (md.s), .slice a 0 c]) rfl rfl rfl) ?_
 rintro _ _ ⟨b1, rfl, rfl⟩
 refine WP.eff rfl rfl rfl (Eff.alloc rfl Ty.z35) ?_
 rintro _ _ ⟨b2, rfl, rfl⟩
 refine WP.nx ?_
 refine WPc.sr ?_
 refine WP.val rfl rfl rfl (Val.fieldAddr (j := 0) rfl Ty.fo84_0 rfl rfl) ?_
 refine WP.val rfl rfl rfl (Val.loadAgg (cs := [.int .i64 (md.m), .int .i64 (md.s)]) rfl Ty.ag81 rfl rfl (fun w h => h.range 1 rfl rfl)) ?_
 refine WP.eff rfl rfl rfl (Eff.call rfl rfl Try.call71 (revout_spec ⟨md.m, md.s⟩)) ?_
 rintro _ _ ⟨_, ⟨rfl, rfl⟩, rfl⟩
 show WP _ _ _ _ _ _ _ (Blk b2 [.int .i64 0, .int .i64 0, .slice none 0 0] 35 :: Blk b1 [.int .i64 (md.m), .int .i64 (md.s), .slice a 0 c] 84 :: _)
 refine WP.val rfl rfl rfl (Val.mk (cs := [.int .i64 (md.m), .int .i64 (md.s), .slice none 0 0]) rfl rfl (fun _ => by kernel_rfl)) ?_
 refine WP.eff rfl rfl rfl (Eff.alloc rfl Ty.z35) ?_
 rintro _ _ ⟨b3, rfl, rfl⟩
 refine WP.eff0 rfl rfl (Eff.storeAgg (cs := [.int .i64 (md.m), .int .i64 (md.s), .slice none 0 0]) (C' := [.int .i64 (md.m), .int .i64 (md.s), .slice none 0 0]) rfl Ty.ag35 rfl rfl rfl rfl (by simp) rfl) ?_
 rintro _ _ rfl
 refine WP.nx ?_
 refine WPc.seq ?_
 refine WPc.seq ?_
 refine WPc.conv (fun w h => Sat.kNil (R := GVPe 32) h) ?_
 refine WPc.conv (fun w h => h.ownNil (e := 53) (k := 4)) ?_
 show WPc _ _ _ _ _ _ (Own 53 4 (.slice none 0 0) 0 ([]) :: Kds (GVPe 32) [] :: Blk b3 [.int .i64 (md.m), .int .i64 (md.s), .slice none 0 0] 35 :: _)
 refine WPc.region ?_
 refine WP.val rfl rfl rfl (Val.assign rfl rfl) ?_
 refine WP.nx ?_
 refine WPc.block ?_
 refine WPc.loop (ι := Nat × Value × List GV) (fun ⟨i, v3, g2⟩ => i ≤ 0 ∧ g2.map (·.1) = (([] : List GV).take i).map (·.1)) (fun ⟨i, v3, g2⟩ => [(1, .pointer (some ⟨b1, 0, none⟩)), (2, .pointer (some ⟨b2, 0, none⟩)), (3, .pointer (some ⟨b3, 0, none⟩)), (4, .int .i64 (((i : Nat) : Int)))]) (fun ⟨i, v3, g2⟩ => Own 53 4 v3 g2.length (flatOf GV.cells g2) :: Kds (GVPe 32) g2 :: Blk b3 [.int .i64 (md.m), .int .i64 (md.s), v3] 35 :: Blk b2 [.int .i64 0, .int .i64 0, .slice none 0 0] 35 :: Blk b1 [.int .i64 (md.m), .int .i64 (md.s), .slice a 0 c] 84 :: A :: F) (fun ⟨i, v3, g2⟩ => 0 - i) (0, .slice none 0 0, []) ⟨Nat.zero_le _, rfl⟩ ((Sub.cons rfl (Sub.cons rfl (Sub.cons rfl (Sub.cons rfl Sub.nil))))) (fun _ h => h) ?_
 rintro ⟨i, v3, g2⟩ ⟨hi, hg2⟩
 show WPc _ _ _ _ _ [(1, .pointer (some ⟨b1, 0, none⟩)), (2, .pointer (some ⟨b2, 0, none⟩)), (3, .pointer (some ⟨b3, 0, none⟩)), (4, .int .i64 (((i : Nat) : Int)))] (Own 53 4 v3 g2.length (flatOf GV.cells g2) :: Kds (GVPe 32) g2 :: Blk b3 [.int .i64 (md.m), .int .i64 (md.s), v3] 35 :: _)
 replace hi : i ≤ 0 := hi
 replace hg2 : g2.map (·.1) = (([] : List GV).take i).map (·.1) := hg2
 have hgn := congrArg List.length hg2
 rw [List.length_map, List.length_map, List.length_take] at hgn
 refine WPc.seq ?_
 refine WPc.sr ?_
 refine WP.val rfl rfl rfl (Val.move rfl rfl) ?_
 refine WP.val rfl rfl rfl (Val.fieldAddr (j := 2) rfl Ty.fo84_1 rfl rfl) ?_
 refine WP.val rfl rfl rfl (Val.load rfl Ty.sc82 rfl (fun w h => h.cell 4 rfl rfl)) ?_
 refine WP.val rfl rfl rfl (Val.len rfl Ty.sl82 rfl) ?_
 refine WP.val rfl rfl rfl (Val.lss rfl rfl rfl) ?_
 refine WP.nx ?_
 refine WPc.ifP rfl (fun h1 => ?_) (fun h1 => ?_)
 ·
  have h1 : (((i : Nat) : Int) < (0 : Int)) := h1
  exfalso; omega
 ·
  have h1 : ¬ (((i : Nat) : Int) < (0 : Int)) := h1
  refine WPc.exit ?_
  refine Out.then_exit ?_
  refine Out.then_exit ?_
  refine Out.block_exit ?_
  refine Out.next ?_
  refine WPc.seq ?_
  refine WPc.fact (fun w h => own_oneCell h) (fun on3 => ?_)
  refine WPc.region ?_
  refine WP.val rfl rfl rfl (Val.loadAgg (cs := [.int .i64 (md.m), .int .i64 (md.s), v3]) rfl Ty.ag35 rfl rfl (fun w h => h.range 2 rfl rfl)) ?_
  refine WP.perm pl3 ?_
  refine WP.eff0 rfl rfl (Eff.storeAgg (cs := [.int .i64 (md.m), .int .i64 (md.s), v3]) (C' := [.int .i64 (md.m), .int .i64 (md.s), v3]) rfl Ty.ag35 rfl rfl rfl (by simp only [List.all_cons, List.all_nil, Bool.and_true, oc_int, oc_str, oc_bool, oc_ptr, oc_slice, oc_iface, oc_map, on3]) (by simp) rfl) ?_
  rintro _ _ rfl
  refine WP.nx ?_
  refine WPc.ret ?_
  have hil : i = 0 := by omega
  rw [hil] at hg2
  refine Out.perm pl3 ?_
  refine Out.drop ?_
  refine Out.perm pl3 ?_
  refine Out.drop ?_
  exact Out.retRun (L' := _) (results_cell (cs := _) Try.results78 Ty.ag35 rfl rfl (fun w h => h.range 0 rfl rfl)) ⟨v3, g2, rfl, hg2, rfl⟩ (fun w h => h.drop)

set_option maxRecDepth 100000 in
set_option maxHeartbeats 2000000 in
theorem dumpout_row (A : HProp) (md : Rv) (l : List GV) (hsm : Small (l.map (·.1))) (hin : ∀ p ∈ l, Rd A 2 Rv.cells p.2 p.1.revs) (b0 o0 c0 : Nat) (hr : ∀ w, Holds A w → ∀ i x, l[i]? = some x → w.rangeAt b0 (o0 + i * 4) (GV.cells x)) : Does Try.prog 78 [.agg #[.int .i64 (md.m), .int .i64 (md.s), .slice (some ⟨b0, o0, none⟩) l.length c0]] [A] (fun v L => ∃ (v2 : Value) (g2 : List GV), v = .agg #[.int .i64 md.m, .int .i64 md.s, v2] ∧ g2.map (·.1) = l.map (·.1) ∧ L = [Own 53 4 v2 g2.length (flatOf GV.cells g2), Kds (GVPe 32) g2, A]) := by
 refine Does.enter 37 Try.func78 rfl rfl rfl fun W F => ?_
 show WPc _ _ _ _ _ [(0, .agg #[.int .i64 (md.m), .int .i64 (md.s), .slice (some ⟨b0, o0, none⟩) l.length c0])] (A :: F)
 refine WPc.sr ?_
 refine WP.eff rfl rfl rfl (Eff.box (C := [.int .i64 (md.m), .int .i64 (md.s), .slice (some ⟨b0, o0, none⟩) l.length c0]) rfl rfl rfl) ?_
 rintro _ _ ⟨b1, rfl, rfl⟩
 refine WP.eff rfl rfl rfl (Eff.alloc rfl Ty.z35) ?_
 rintro _ _ ⟨b2, rfl, rfl⟩
 refine WP.nx ?_
 refine WPc.sr ?_
 refine WP.val rfl rfl rfl (Val.fieldAddr (j := 0) rfl Ty.fo84_0 rfl rfl) ?_
 refine WP.val rfl rfl rfl (Val.loadAgg (cs := [.int .i64 (md.m), .int .i64 (md.s)]) rfl Ty.ag81 rfl rfl (fun w h => h.range 1 rfl rfl)) ?_
 refine WP.eff rfl rfl rfl (Eff.call rfl rfl Try.call71 (revout_spec ⟨md.m, md.s⟩)) ?_
 rintro _ _ ⟨_, ⟨rfl, rfl⟩, rfl⟩
 show WP _ _ _ _ _ _ _ (Blk b2 [.int .i64 0, .int .i64 0, .slice none 0 0] 35 :: Blk b1 [.int .i64 (md.m), .int .i64 (md.s), .slice (some ⟨b0, o0, none⟩) l.length c0] 84 :: _)
 refine WP.val rfl rfl rfl (Val.mk (cs := [.int .i64 (md.m), .int .i64 (md.s), .slice none 0 0]) rfl rfl (fun _ => by kernel_rfl)) ?_
 refine WP.eff rfl rfl rfl (Eff.alloc rfl Ty.z35) ?_
 rintro _ _ ⟨b3, rfl, rfl⟩
 refine WP.eff0 rfl rfl (Eff.storeAgg (cs := [.int .i64 (md.m), .int .i64 (md.s), .slice none 0 0]) (C' := [.int .i64 (md.m), .int .i64 (md.s), .slice none 0 0]) rfl Ty.ag35 rfl rfl rfl rfl (by simp) rfl) ?_
 rintro _ _ rfl
 refine WP.nx ?_
 refine WPc.seq ?_
 refine WPc.seq ?_
 refine WPc.conv (fun w h => Sat.kNil (R := GVPe 32) h) ?_
 refine WPc.conv (fun w h => h.ownNil (e := 53) (k := 4)) ?_
 show WPc _ _ _ _ _ _ (Own 53 4 (.slice none 0 0) 0 ([]) :: Kds (GVPe 32) [] :: Blk b3 [.int .i64 (md.m), .int .i64 (md.s), .slice none 0 0] 35 :: _)
 refine WPc.region ?_
 refine WP.val rfl rfl rfl (Val.assign rfl rfl) ?_
 refine WP.nx ?_
 refine WPc.block ?_
 refine WPc.loop (ι := Nat × Value × List GV) (fun ⟨i, v3, g2⟩ => i ≤ l.length ∧ g2.map (·.1) = (l.take i).map (·.1)) (fun ⟨i, v3, g2⟩ => [(1, .pointer (some ⟨b1, 0, none⟩)), (2, .pointer (some ⟨b2, 0, none⟩)), (3, .pointer (some ⟨b3, 0, none⟩)), (4, .int .i64 (((i : Nat) : Int)))]) (fun ⟨i, v3, g2⟩ => Own 53 4 v3 g2.length (flatOf GV.cells g2) :: Kds (GVPe 32) g2 :: Blk b3 [.int .i64 (md.m), .int .i64 (md.s), v3] 35 :: Blk b2 [.int .i64 0, .int .i64 0, .slice none 0 0] 35 :: Blk b1 [.int .i64 (md.m), .int .i64 (md.s), .slice (some ⟨b0, o0, none⟩) l.length c0] 84 :: A :: F) (fun ⟨i, v3, g2⟩ => l.length - i) (0, .slice none 0 0, []) ⟨Nat.zero_le _, rfl⟩ ((Sub.cons rfl (Sub.cons rfl (Sub.cons rfl (Sub.cons rfl Sub.nil))))) (fun _ h => h) ?_
 rintro ⟨i, v3, g2⟩ ⟨hi, hg2⟩
 show WPc _ _ _ _ _ [(1, .pointer (some ⟨b1, 0, none⟩)), (2, .pointer (some ⟨b2, 0, none⟩)), (3, .pointer (some ⟨b3, 0, none⟩)), (4, .int .i64 (((i : Nat) : Int)))] (Own 53 4 v3 g2.length (flatOf GV.cells g2) :: Kds (GVPe 32) g2 :: Blk b3 [.int .i64 (md.m), .int .i64 (md.s), v3] 35 :: _)
 replace hi : i ≤ l.length := hi
 replace hg2 : g2.map (·.1) = (l.take i).map (·.1) := hg2
 have hgn := congrArg List.length hg2
 rw [List.length_map, List.length_map, List.length_take] at hgn
 have hlen := hsm.len
 refine WPc.seq ?_
 refine WPc.sr ?_
 refine WP.val rfl rfl rfl (Val.move rfl rfl) ?_
 refine WP.val rfl rfl rfl (Val.fieldAddr (j := 2) rfl Ty.fo84_1 rfl rfl) ?_
 refine WP.val rfl rfl rfl (Val.load rfl Ty.sc82 rfl (fun w h => h.cell 4 rfl rfl)) ?_
 refine WP.val rfl rfl rfl (Val.len rfl Ty.sl82 rfl) ?_
 refine WP.val rfl rfl rfl (Val.lss rfl rfl rfl) ?_
 refine WP.nx ?_
 refine WPc.ifP rfl (fun h1 => ?_) (fun h1 => ?_)
 ·
  have h1 : (((i : Nat) : Int) < ((l.length : Nat) : Int)) := h1
  refine WPc.skip ?_
  refine Out.next ?_
  refine WPc.seq ?_
  refine WPc.block ?_
  refine WPc.seq ?_
  have hlt : i < l.length := by omega
  obtain ⟨x, hx⟩ : ∃ x, l[i]? = some x := ⟨_, List.getElem?_eq_getElem hlt⟩
  have hxm : x ∈ l := List.mem_iff_getElem?.2 ⟨_, hx⟩
  have onx := Rd.one (hin x hxm)
  have hsx := hsm.inn hxm
  refine WPc.region ?_
  refine WP.val rfl rfl rfl (Val.fieldAddr (j := 2) rfl Ty.fo84_1 rfl rfl) ?_
  refine WP.val rfl rfl rfl (Val.load rfl Ty.sc82 rfl (fun w h => h.cell 4 rfl rfl)) ?_
  refine WP.val rfl rfl rfl (Val.move rfl rfl) ?_
  refine WP.val rfl rfl rfl (Val.indexAddr (j := i) (q := o0 + i * 4) rfl Ty.sl82 rfl rfl (by omega) (by omega) (by omega)) ?_
  refine WP.val rfl rfl rfl (Val.loadAgg (cs := (GV.cells x)) rfl Ty.ag135 rfl (by rfl) (fun w h => hr w (h.at 5 rfl) i x hx)) ?_
  refine WP.eff rfl rfl rfl (Eff.alloc rfl Ty.z135) ?_
  rintro _ _ ⟨b4, rfl, rfl⟩
  refine WP.eff0 rfl rfl (Eff.storeAgg (cs := [.int .i64 (x.1.v), .int .i64 (x.1.c.m), .int .i64 (x.1.c.s), x.2]) (C' := [.int .i64 (x.1.v), .int .i64 (x.1.c.m), .int .i64 (x.1.c.s), x.2]) rfl Ty.ag135 rfl rfl rfl (by simp only [List.all_cons, List.all_nil, Bool.and_true, oc_int, oc_str, oc_bool, oc_ptr, oc_slice, oc_iface, oc_map, onx]) (by simp) rfl) ?_
  rintro _ _ rfl
  refine WP.nx ?_
  refine WPD.start (Sat W [Blk b3 [.int .i64 (md.m), .int .i64 (md.s), v3] 35, Blk b4 [.int .i64 (x.1.v), .int .i64 (x.1.c.m), .int .i64 (x.1.c.s), x.2] 135]) Ty.mixed ?_
  refine WPD.tS 0 rfl rfl rfl rfl (fun w h => ((h.perm pl3)).dropEnd (L := [_, _])) (Val.fieldAddr (j := 2) rfl Ty.fo35_1 rfl rfl) ?_
  refine WPD.tL 1 rfl rfl rfl rfl (fun w h => ((h.perm pl3)).dropEnd (L := [_, _])) (Val.load rfl Ty.sc33 rfl (fun w h => h.cell 0 rfl rfl)) ?_
  refine WPD.tS 2 rfl rfl rfl rfl (fun w h => ((h.perm pl3)).dropEnd (L := [_, _])) (Val.fieldAddr (j := 0) rfl Ty.fo135_0 rfl rfl) ?_
  refine WPD.tL 3 rfl rfl rfl rfl (fun w h => ((h.perm pl3)).dropEnd (L := [_, _])) (Val.load rfl Ty.sc2 rfl (fun w h => h.cell 1 rfl rfl)) ?_
  refine WPD.tS 4 rfl rfl rfl rfl (fun w h => ((h.perm pl3)).dropEnd (L := [_, _])) (Val.fieldAddr (j := 1) rfl Ty.fo135_1 rfl rfl) ?_
  refine WPD.tL 5 rfl rfl rfl rfl (fun w h => ((h.perm pl3)).dropEnd (L := [_, _])) (Val.loadAgg (cs := [.int .i64 (x.1.c.m), .int .i64 (x.1.c.s)]) rfl Ty.ag81 rfl rfl (fun w h => h.range 1 rfl rfl)) ?_
  refine WPD.tS 7 rfl rfl rfl rfl (fun w h => ((h.perm pl3)).dropEnd (L := [_, _])) (Val.fieldAddr (j := 3) rfl Ty.fo135_2 rfl rfl) ?_
  refine WPD.tL 8 rfl rfl rfl rfl (fun w h => ((h.perm pl3)).dropEnd (L := [_, _])) (Val.load rfl Ty.sc132 rfl (fun w h => h.cell 1 rfl rfl)) ?_
  refine WPD.step 6 (by kernel_rfl) rfl rfl rfl rfl (Eff.call rfl rfl Try.call71 (revout_spec ⟨x.1.c.m, x.1.c.s⟩)) ?_
  rintro _ _ ⟨_, ⟨rfl, rfl⟩, rfl⟩
  refine ⟨(fun w h => ((h.perm pl3)).dropEnd (L := [_, _])), ?_⟩
  show WPD _ _ _ _ _ _ _ _ _ (Blk b4 [.int .i64 (x.1.v), .int .i64 (x.1.c.m), .int .i64 (x.1.c.s), x.2] 135 :: _)
  refine WPD.perm pl6 ?_
  refine WPD.step 9 (by kernel_rfl) rfl rfl rfl rfl (Eff.call rfl rfl Try.call72 (revsout_spec A x.1.revs hsx x.2 (hin x hxm))) ?_
  rintro vr _ ⟨_, rfl, rfl⟩
  refine ⟨(fun w h => (((h.perm pl2).perm pl5)).dropEnd (L := [_, _])), ?_⟩
  show WPD _ _ _ _ _ _ _ _ _ (Own 32 2 vr x.1.revs.length (flatOf Rv.cells x.1.revs) :: _)
  refine WPD.fact (fun w h => own_slice h) (fun hsl5 => ?_)
  obtain ⟨a5, k5, rfl⟩ := hsl5
  show WPD _ _ _ _ _ _ _ _ _ (Own 32 2 (.slice a5 x.1.revs.length k5) x.1.revs.length (flatOf Rv.cells x.1.revs) :: _)
  refine WPD.tS 10 rfl rfl rfl rfl (fun w h => (((h.perm pl2).perm pl5)).dropEnd (L := [_, _])) (Val.mk (cs := [.int .i64 (x.1.v), .int .i64 (x.1.c.m), .int .i64 (x.1.c.s), .slice a5 x.1.revs.length k5]) rfl rfl (fun _ => by kernel_rfl)) ?_
  refine WPD.step 11 (by kernel_rfl) rfl rfl rfl rfl (Eff.mkSlice (C := [.int .i64 (x.1.v), .int .i64 (x.1.c.m), .int .i64 (x.1.c.s), .slice a5 x.1.revs.length k5]) rfl Ty.sl33 rfl (fun _ => by kernel_rfl)) ?_
  rintro _ _ ⟨b6, rfl, rfl⟩
  refine ⟨(fun w h => (((h.perm pl3).perm pl6)).dropEnd (L := [_, _])), ?_⟩
  refine WPD.perm pl4 ?_
  refine WPD.stepC 12 (by kernel_rfl) rfl rfl rfl rfl (by kernel_rfl) (Eff.append (m := 1) (n0 := g2.length) (news := [.int .i64 (x.1.v), .int .i64 (x.1.c.m), .int .i64 (x.1.c.s), .slice a5 x.1.revs.length k5]) rfl Ty.sl33 Ty.z53 rfl rfl rfl (.slice Ty.sl33 rfl rfl (fun w h => cells_range (h.range 1 rfl rfl))) (by omega) (by omega)) ?_
  rintro v7 _ ⟨onev7, rfl⟩
  refine ⟨_, (fun _ h => h), ?_⟩
  refine WPD.tM 13 rfl rfl rfl rfl (Val.fieldAddr (j := 2) rfl Ty.fo35_1 rfl rfl) ?_
  refine WPD.perm pl6 ?_
  refine WPD.stepC0 14 (by kernel_rfl) rfl rfl rfl (by kernel_rfl) (Eff.store rfl Ty.sc33 rfl rfl onev7 (by simp) st2) ?_
  rintro _ _ rfl
  refine ⟨_, (fun _ h => h), ?_⟩
  refine WPD.done (by kernel_rfl) ?_
  refine Out.block ?_
  refine Out.next ?_
  refine WPc.region ?_
  refine WP.val rfl rfl rfl (Val.move rfl rfl) ?_
  refine WP.val rfl rfl rfl (Val.add (z := ((i + 1 : Nat) : Int)) rfl rfl rfl ((w64 (by omega) (by omega)).trans (by omega))) ?_
  refine WP.val rfl rfl rfl (Val.assign rfl rfl) ?_
  refine WP.nil ?_
  refine Out.perm pl2 ?_
  refine Out.drop ?_
  refine Out.perm pl4 ?_
  refine Out.drop ?_
  refine Out.perm pl3 ?_
  refine Out.perm pl6 ?_
  refine Out.perm pl6 ?_
  refine Out.perm pl3 ?_
  iterate 3 (refine Out.perm pl6 ?_)
  refine Out.again (i + 1, v7, g2 ++ [(x.1, .slice a5 x.1.revs.length k5)]) ?_ ?_ ?_ ?_
  ·
   exact (by show i + 1 ≤ l.length ∧ (g2 ++ [(x.1, _)] : List GV).map (·.1) = (l.take (i + 1)).map (·.1); rw [take_more hx, List.map_append, List.map_append, hg2]; exact ⟨by omega, rfl⟩)
  ·
   (dsimp only; omega)
  ·
   exact (Sub.cons rfl (Sub.cons rfl (Sub.cons rfl (Sub.cons rfl Sub.nil))))
  ·
   exact (fun w h => againF (p := (x.1, _)) (by (try simp only [Nat.zero_add, List.nil_append] at h); rw [flatOf_append, flatOf_one, List.length_append]; exact h))
 ·
  have h1 : ¬ (((i : Nat) : Int) < ((l.length : Nat) : Int)) := h1
  refine WPc.exit ?_
  refine Out.then_exit ?_
  refine Out.then_exit ?_
  refine Out.block_exit ?_
  refine Out.next ?_
  refine WPc.seq ?_
  refine WPc.fact (fun w h => own_oneCell h) (fun on3 => ?_)
  refine WPc.region ?_
  refine WP.val rfl rfl rfl (Val.loadAgg (cs := [.int .i64 (md.m), .int .i64 (md.s), v3]) rfl Ty.ag35 rfl rfl (fun w h => h.range 2 rfl rfl)) ?_
  refine WP.perm pl3 ?_
  refine WP.eff0 rfl rfl (Eff.storeAgg (cs := [.int .i64 (md.m), .int .i64 (md.s), v3]) (C' := [.int .i64 (md.m), .int .i64 (md.s), v3]) rfl Ty.ag35 rfl rfl rfl (by simp only [List.all_cons, List.all_nil, Bool.and_true, oc_int, oc_str, oc_bool, oc_ptr, oc_slice, oc_iface, oc_map, on3]) (by simp) rfl) ?_
  rintro _ _ rfl
  refine WP.nx ?_
  refine WPc.ret ?_
  have hil : i = l.length := by omega
  rw [hil, List.take_length] at hg2
  refine Out.perm pl3 ?_
  refine Out.drop ?_
  refine Out.perm pl3 ?_
  refine Out.drop ?_
  exact Out.retRun (L' := _) (results_cell (cs := _) Try.results78 Ty.ag35 rfl rfl (fun w h => h.range 0 rfl rfl)) ⟨v3, g2, rfl, hg2, rfl⟩ (fun w h => h.drop)

theorem dumpout_spec (A : HProp) (md : Rv) (l : List GV) (hsm : Small (l.map (·.1))) (hin : ∀ p ∈ l, Rd A 2 Rv.cells p.2 p.1.revs) (va : Value) (hva : Rd A 4 GV.cells va l) : Does Try.prog 78 [.agg #[.int .i64 (md.m), .int .i64 (md.s), va]] [A] (fun v L => ∃ (v2 : Value) (g2 : List GV), v = .agg #[.int .i64 md.m, .int .i64 md.s, v2] ∧ g2.map (·.1) = l.map (·.1) ∧ L = [Own 53 4 v2 g2.length (flatOf GV.cells g2), Kds (GVPe 32) g2, A]) := by
 rcases hva with ⟨b0, o0, c0, rfl, hr⟩ | ⟨rfl, a, c, rfl⟩
 ·
  exact dumpout_row A md l hsm hin b0 o0 c0 hr
 ·
  exact dumpout_nil A md a c

end Go.Proofs.Ythicijpjpijdjaa.Kt

