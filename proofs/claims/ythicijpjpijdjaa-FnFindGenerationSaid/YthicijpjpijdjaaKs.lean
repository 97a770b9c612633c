import Derived.Test.YthicijpjpijdjaaKr
import Derived.Test.YthicijpjpijdjaaSlOff
import Derived.Defers
import Derived.Recover
import Derived.WalkKit
import Derived.ProofKit
/-! a call that is guarded against a panic -/
namespace Go.Proofs.Ythicijpjpijdjaa.Ks
open Go.RowKit Go.Lib Go.Proofs.Ythicijpjpijdjaa Go.Proofs.Ythicijpjpijdjaa.Sl
set_option linter.unusedVariables false
set_option linter.unusedSimpArgs false
structure Box (p : Prop) : Prop where
  out : p
theorem catch_idle (p : Addr) (w : World) :
    CallsD Try.prog 65 #[.pointer (some p)] .returning w fun e u' w' => e = .returned (.tuple #[]) ∧ u' = .returning ∧ w = w' := by
  refine callsD_of_wpS Try.func65 rfl fun c₀ cs hu => ?_
  apply wpS_seq
  apply wpS_region
  simp [wpOpsS, go_sem, recoverD, hu, Try.ntmps65, Exit.thenS]
  refine wpS_cond (t := false) (by simp [Act.eval, Array.replicate]) ?_
  simp only [Bool.false_eq_true, if_false]
  refine wpS_of_wp (wp_skip ?_)
  cases c₀
  simp_all [bodyPostS, results, Try.results65]
theorem mkf (fn : Fn) (first cap : Array Value) (w : World) : (Instr.makeFunc fn first cap).run Try.prog w = .ok (.func fn first cap) w := rfl
def FinePost (b : Bool) (B : Nat) (G : World → Prop) (e : Ending) (w' : World) : Prop := ∃ w1, G w1 ∧ e = .returned (.bool b) ∧ w1.setCell ⟨B, 0, none⟩ (.bool b) = w'
theorem fine_ok (w : World) (k : FuncId) (caps : Array Value) (G : World → Prop) (he : ∀ args w, (callFunc k args).run Try.prog w = .ok (.enter k args) w)
    (hc : Calls Try.prog k caps (w.alloc (.cells #[.bool false] 4)) fun e w' => e = .returned (.tuple #[]) ∧ G w')
    (hG : ∀ w', G w' → w'.cell? ⟨w.heap.size, 0, none⟩ = some (.bool false) ∧ w'.frozen? ⟨w.heap.size, 0, none⟩ = false) :
    Calls Try.prog 33 #[.func (.func k) #[] caps] w (FinePost true w.heap.size G) := by
  have hmf := mkf
  have HC : Box _ := ⟨hc⟩
  have HG : Box _ := ⟨hG⟩
  clear hc hG
  go_enter_defers Try.func33, Try.ntmps33
  go_wp2_with fail
  refine HC.out.mono ?_
  rintro e w1 ⟨rfl, hg⟩
  obtain ⟨h1, h2⟩ := HG.out _ hg
  go_wp2_with fail
  refine leaves_cons (f := 65) (args := #[.pointer (some ⟨w.heap.size, 0, none⟩)]) (by simp) (by simp [go_sem]) ?_
  refine (catch_idle ⟨w.heap.size, 0, none⟩ _).mono ?_
  rintro e u' w'' ⟨rfl, rfl, rfl⟩
  have e : (w1.setCell ⟨w.heap.size, 0, none⟩ (.bool true)).cell? ⟨w.heap.size, 0, none⟩ = some (.bool true) := World.cell?_setCell_same _ _ _ h1
  simp [Leaves, settle, results, Try.results33, go_sem, e]
  exact ⟨w1, hg, rfl, rfl⟩
/-- what is called answers; so does the guarded call -/
theorem fine_does {k : FuncId} {caps : List Value} {L : List HProp} {R : List HProp → Prop} (he : ∀ args w, (callFunc k args).run Try.prog w = .ok (.enter k args) w)
    (h : Does Try.prog k caps L (fun v L' => v = .tuple #[] ∧ R L')) : Does Try.prog 33 [.func (.func k) #[] caps.toArray] L (fun v L' => v = .bool true ∧ R L') := by
  intro W F w hs
  have hs1 : Sat W (L ++ (Blk w.heap.size [.bool false] 4 :: F)) (w.alloc (.cells #[.bool false] 4)) :=
    (hs.blk [.bool false] 4).perm List.perm_middle.symm
  refine (fine_ok w k caps.toArray (fun w' => ∃ L', R L' ∧ Sat W (L' ++ (Blk w.heap.size [.bool false] 4 :: F)) w') he ?_ ?_).mono ?_
  · refine (h W (Blk w.heap.size [.bool false] 4 :: F) _ hs1).mono ?_
    rintro e w' ⟨v, L', rfl, ⟨rfl, hR⟩, hs'⟩
    exact ⟨rfl, L', hR, hs'⟩
  · rintro w' ⟨L', hR, hs'⟩
    have h1 : Sat W (Blk w.heap.size [.bool false] 4 :: (L' ++ F)) w' := hs'.perm List.perm_middle
    exact ⟨by rw [h1.head.cell]; rfl, h1.head.free (by simp)⟩
  · rintro e w' ⟨w1, ⟨L', hR, hs'⟩, rfl, rfl⟩
    have h1 : Sat W (Blk w.heap.size [.bool false] 4 :: (L' ++ F)) w1 := hs'.perm List.perm_middle
    exact ⟨.bool true, L', rfl, ⟨rfl, hR⟩, (h1.set (.bool true)).drop⟩
end Go.Proofs.Ythicijpjpijdjaa.Ks
