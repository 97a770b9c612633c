import Derived.Test.YthicijpjpijdjaaMi
import Derived.Test.YthicijpjpijdjaaSlConv
import Derived.Test.YthicijpjpijdjaaSlOff
import Derived.Defers
import Derived.Recover
import Derived.WalkKit
import Derived.ProofKit
namespace Go.Proofs.Ythicijpjpijdjaa.Kr
open Go.RowKit Go.Proofs.Ythicijpjpijdjaa Go.Proofs.Ythicijpjpijdjaa.Sl Go.Proofs.Ythicijpjpijdjaa.KyP Go.Proofs.Ythicijpjpijdjaa.Ka Go.Proofs.Ythicijpjpijdjaa.Kb Go.Proofs.Ythicijpjpijdjaa.Kc Go.Proofs.Ythicijpjpijdjaa.Kd Go.Proofs.Ythicijpjpijdjaa.Ke Go.Proofs.Ythicijpjpijdjaa.Kf Go.Proofs.Ythicijpjpijdjaa.Kg Go.Proofs.Ythicijpjpijdjaa.Kh Go.Proofs.Ythicijpjpijdjaa.Ki Go.Proofs.Ythicijpjpijdjaa.Kj Go.Proofs.Ythicijpjpijdjaa.Kk Go.Proofs.Ythicijpjpijdjaa.Kl Go.Proofs.Ythicijpjpijdjaa.Km Go.Proofs.Ythicijpjpijdjaa.Kn Go.Proofs.Ythicijpjpijdjaa.Ko Go.Proofs.Ythicijpjpijdjaa.Kp Go.Proofs.Ythicijpjpijdjaa.Kq
set_option linter.unusedVariables false
set_option linter.unusedSimpArgs false
set_option linter.unusedSectionVars false

set_option maxRecDepth 100000 in
set_option maxHeartbeats 2000000 in
theorem findg_slice (A : HProp) (md : Rv) (at_ : Int) (l : List GV) (hsm : Small (l.map (·.1))) (hin : ∀ p ∈ l, Rd A 2 Rv.cells p.2 p.1.revs) (sa : Option Addr) (sc : Nat) (hva : Rd A 4 GV.cells (.slice sa l.length sc) l) : Does Try.prog 18 [.agg #[.int .i64 (md.m), .int .i64 (md.s), .slice sa l.length sc], .int .i64 (at_)] [A] (fun v L => v = .int .i64 (fg (l.map (·.1)) at_ l.length) ∧ L = [A]) := by
  refine Does.enter 12 Try.func18 rfl rfl rfl fun W F => ?_
  show WPc _ _ _ _ _ [(0, .agg #[.int .i64 (md.m), .int .i64 (md.s), .slice sa l.length sc]), (1, .int .i64 (at_))] (A :: F)
  refine WPc.seq ?_
  refine WPc.region ?_
  refine WP.eff rfl rfl rfl (Eff.box (C := [.int .i64 (md.m), .int .i64 (md.s), .slice sa l.length sc]) rfl rfl rfl) ?_
  rintro _ _ ⟨b1, rfl, rfl⟩
  refine WP.val rfl rfl rfl (Val.assign rfl rfl) ?_
  refine WP.nil ?_
  refine Out.next ?_
  refine WPc.seq ?_
  refine WPc.region ?_
  refine WP.eff rfl rfl rfl (Eff.mkSliceO (e := 5) (C := [.int .u8 107]) rfl rfl (fun _ => by kernel_rfl)) ?_
  rintro _ _ ⟨kb, rfl, rfl⟩
  refine WP.eff rfl rfl rfl (Eff.convRow rfl Ty.by80 rfl) ?_
  rintro _ _ ⟨rfl, rfl⟩
  refine WP.val rfl rfl rfl (Val.loadAgg (cs := [.int .i64 (md.m), .int .i64 (md.s), .slice sa l.length sc]) rfl Ty.ag35 rfl rfl (fun w h => h.range 1 rfl rfl)) ?_
  refine WP.perm pl2 ?_
  refine WP.eff rfl rfl rfl (Eff.call rfl rfl Try.call32 (dumpin_spec A md l hsm hin (.slice sa l.length sc) hva)) ?_
  rintro _ _ ⟨_, ⟨v2, g2, rfl, hg2, rfl⟩, rfl⟩
  show WP _ _ _ _ _ _ _ (Own 135 4 v2 g2.length (flatOf GV.cells g2) :: Kds (GVPe 81) g2 :: A :: Blk kb [.int .u8 107] 5 :: Blk b1 [.int .i64 (md.m), .int .i64 (md.s), .slice sa l.length sc] 35 :: F)
  refine WP.perm pl1 ?_
  refine WP.perm pl1 ?_
  refine WP.open (fun w h => gens_open h) ?_
  rintro E2
  refine WP.pure (fun hE2 => ?_)
  obtain ⟨rE2, backE2⟩ := hE2
  show WP _ _ _ _ _ _ _ (E2 :: A :: Blk kb [.int .u8 107] 5 :: Blk b1 [.int .i64 (md.m), .int .i64 (md.s), .slice sa l.length sc] 35 :: F)
  have hs2 : Small (g2.map (·.1)) := by rw [hg2]; exact hsm
  refine WP.eff rfl rfl rfl (Eff.call rfl rfl Try.call31 (newkey_spec E2 (some ⟨kb, 0, none⟩) 1 1 md g2 hs2 v2 rE2)) ?_
  rintro _ _ ⟨_, ⟨b, v3, g3, rfl, hg3, rfl⟩, rfl⟩
  show WP _ _ _ _ _ _ _ (Blk b [.slice (some ⟨kb, 0, none⟩) 1 1, .int .i64 (md.m), .int .i64 (md.s), v3] 153 :: Own 155 4 v3 g3.length (flatOf GV.cells g3) :: Kds (GVPe 81) g3 :: E2 :: A :: Blk kb [.int .u8 107] 5 :: Blk b1 [.int .i64 (md.m), .int .i64 (md.s), .slice sa l.length sc] 35 :: F)
  refine WP.perm pl2 ?_
  refine WP.perm pl2 ?_
  refine WP.open (fun w h => gens_open h) ?_
  rintro E3
  refine WP.pure (fun hE3 => ?_)
  obtain ⟨rE3, backE3⟩ := hE3
  show WP _ _ _ _ _ _ _ (E3 :: Blk b [.slice (some ⟨kb, 0, none⟩) 1 1, .int .i64 (md.m), .int .i64 (md.s), v3] 153 :: E2 :: A :: Blk kb [.int .u8 107] 5 :: Blk b1 [.int .i64 (md.m), .int .i64 (md.s), .slice sa l.length sc] 35 :: F)
  have hs3 : Small (g3.map (·.1)) := by rw [hg3]; exact hs2
  refine WP.val rfl rfl rfl (Val.move rfl rfl) ?_
  refine WP.perm pl1 ?_
  refine WP.eff rfl rfl rfl (Eff.call rfl rfl Try.call37 (find_spec E3 b (some ⟨kb, 0, none⟩) 1 1 md at_ g3 hs3 rE3.inn v3 rE3.rd)) ?_
  rintro _ _ ⟨_, ⟨rfl, rfl⟩, rfl⟩
  show WP _ _ _ _ _ _ _ (Blk b [.slice (some ⟨kb, 0, none⟩) 1 1, .int .i64 (md.m), .int .i64 (md.s), v3] 153 :: E3 :: E2 :: A :: Blk kb [.int .u8 107] 5 :: Blk b1 [.int .i64 (md.m), .int .i64 (md.s), .slice sa l.length sc] 35 :: F)
  refine WP.val rfl rfl rfl (Val.assign rfl rfl) ?_
  refine WP.nil ?_
  refine Out.next ?_
  refine WPc.ret ?_
  refine Out.drop ?_
  refine Out.drop ?_
  refine Out.drop ?_
  refine Out.perm pl1 ?_
  refine Out.drop ?_
  refine Out.perm pl1 ?_
  refine Out.drop ?_
  exact Out.ret1 (L' := _) Try.results18 rfl ⟨congrArg (Value.int .i64) (show _ = fg (l.map (·.1)) at_ l.length by rw [hg3, hg2, show g3.length = l.length from by have h9 := congrArg List.length (hg3.trans hg2); simpa using h9]), rfl⟩ (fun _ h => h)
theorem findg_spec (A : HProp) (md : Rv) (at_ : Int) (l : List GV) (hsm : Small (l.map (·.1))) (va : Value) (hva : RdG A va l) : Does Try.prog 18 [.agg #[.int .i64 md.m, .int .i64 md.s, va], .int .i64 at_] [A] (fun v L => v = .int .i64 (fg (l.map (·.1)) at_ l.length) ∧ L = [A]) := by
  obtain ⟨sa, sc, rfl⟩ := Rd.slice hva.rd
  exact findg_slice A md at_ l hsm hva.inn sa sc hva.rd

end Go.Proofs.Ythicijpjpijdjaa.Kr

/-! a call that is guarded against a panic -/
namespace Go.Proofs.Ythicijpjpijdjaa.Ks
open Go.RowKit Go.Lib Go.Proofs.Ythicijpjpijdjaa Go.Proofs.Ythicijpjpijdjaa.Sl
set_option linter.unusedVariables false
set_option linter.unusedSimpArgs false
structure Box (p : Prop) : Prop where
  out : p
theorem catch_idle (p : Addr) (w : World) :
    CallsD Try.prog 65 #[.pointer (some p)] .returning w fun e u' w' => e = .returned (.tuple #[]) ∧ u' = .returning ∧ w = w' := by
  refine callsD_of_wpS Try.func65 rfl fun c₀ cs hu => ?_
  apply wpS_seq
  apply wpS_region
  simp [wpOpsS, go_sem, recoverD, hu, Try.ntmps65, Exit.thenS]
  refine wpS_cond (t := false) (by simp [Act.eval, Array.replicate]) ?_
  simp only [Bool.false_eq_true, if_false]
  refine wpS_of_wp (wp_skip ?_)
  cases c₀
  simp_all [bodyPostS, results, Try.results65]
theorem mkf (fn : Fn) (first cap : Array Value) (w : World) : (Instr.makeFunc fn first cap).run Try.prog w = .ok (.func fn first cap) w := rfl
def FinePost (b : Bool) (B : Nat) (G : World → Prop) (e : Ending) (w' : World) : Prop := ∃ w1, G w1 ∧ e = .returned (.bool b) ∧ w1.setCell ⟨B, 0, none⟩ (.bool b) = w'
theorem fine_ok (w : World) (k : FuncId) (caps : Array Value) (G : World → Prop) (he : ∀ args w, (callFunc k args).run Try.prog w = .ok (.enter k args) w)
    (hc : Calls Try.prog k caps (w.alloc (.cells #[.bool false] 4)) fun e w' => e = .returned (.tuple #[]) ∧ G w')
    (hG : ∀ w', G w' → w'.cell? ⟨w.heap.size, 0, none⟩ = some (.bool false) ∧ w'.frozen? ⟨w.heap.size, 0, none⟩ = false) :
    Calls Try.prog 33 #[.func (.func k) #[] caps] w (FinePost true w.heap.size G) := by
  have hmf := mkf
  have HC : Box _ := ⟨hc⟩
  have HG : Box _ := ⟨hG⟩
  clear hc hG
  go_enter_defers Try.func33, Try.ntmps33
  go_wp2_with fail
  refine HC.out.mono ?_
  rintro e w1 ⟨rfl, hg⟩
  obtain ⟨h1, h2⟩ := HG.out _ hg
  go_wp2_with fail
  refine leaves_cons (f := 65) (args := #[.pointer (some ⟨w.heap.size, 0, none⟩)]) (by simp) (by simp [go_sem]) ?_
  refine (catch_idle ⟨w.heap.size, 0, none⟩ _).mono ?_
  rintro e u' w'' ⟨rfl, rfl, rfl⟩
  have e : (w1.setCell ⟨w.heap.size, 0, none⟩ (.bool true)).cell? ⟨w.heap.size, 0, none⟩ = some (.bool true) := World.cell?_setCell_same _ _ _ h1
  simp [Leaves, settle, results, Try.results33, go_sem, e]
  exact ⟨w1, hg, rfl, rfl⟩
/-- what is called answers; so does the guarded call -/
theorem fine_does {k : FuncId} {caps : List Value} {L : List HProp} {R : List HProp → Prop} (he : ∀ args w, (callFunc k args).run Try.prog w = .ok (.enter k args) w)
    (h : Does Try.prog k caps L (fun v L' => v = .tuple #[] ∧ R L')) : Does Try.prog 33 [.func (.func k) #[] caps.toArray] L (fun v L' => v = .bool true ∧ R L') := by
  intro W F w hs
  have hs1 : Sat W (L ++ (Blk w.heap.size [.bool false] 4 :: F)) (w.alloc (.cells #[.bool false] 4)) :=
    (hs.blk [.bool false] 4).perm List.perm_middle.symm
  refine (fine_ok w k caps.toArray (fun w' => ∃ L', R L' ∧ Sat W (L' ++ (Blk w.heap.size [.bool false] 4 :: F)) w') he ?_ ?_).mono ?_
  · refine (h W (Blk w.heap.size [.bool false] 4 :: F) _ hs1).mono ?_
    rintro e w' ⟨v, L', rfl, ⟨rfl, hR⟩, hs'⟩
    exact ⟨rfl, L', hR, hs'⟩
  · rintro w' ⟨L', hR, hs'⟩
    have h1 : Sat W (Blk w.heap.size [.bool false] 4 :: (L' ++ F)) w' := hs'.perm List.perm_middle
    exact ⟨by rw [h1.head.cell]; rfl, h1.head.free (by simp)⟩
  · rintro e w' ⟨w1, ⟨L', hR, hs'⟩, rfl, rfl⟩
    have h1 : Sat W (Blk w.heap.size [.bool false] 4 :: (L' ++ F)) w1 := hs'.perm List.perm_middle
    exact ⟨.bool true, L', rfl, ⟨rfl, hR⟩, (h1.set (.bool true)).drop⟩
end Go.Proofs.Ythicijpjpijdjaa.Ks

