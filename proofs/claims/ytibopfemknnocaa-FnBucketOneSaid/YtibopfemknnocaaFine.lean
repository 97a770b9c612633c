import Derived.Test.YtibopfemknnocaaKey
import Derived.Defers
import Derived.Recover
namespace Go.Proofs.Ytibopfemknnocaa.Fine
open Go.RowKit Go.Lib Go.Proofs.Ytibopfemknnocaa.Open Go.Proofs.Ytibopfemknnocaa.Kept Go.Proofs.Ytibopfemknnocaa.Rev Go.Proofs.Ytibopfemknnocaa.Key

theorem catch_panicking (p : Addr) (x : Bool) (u : TypeId) (pv : Value) (older : List PanicEntry) (w : World) (hc : w.cell? p = some (.bool x)) (hz : w.frozen? p = false) :
    CallsD Try.prog 61 #[.pointer (some p)] (.panicking ({ v := .iface u pv, recovered := false } :: older)) w fun e u' w' =>
      e = .returned (.tuple #[]) ∧ u' = .panicking ({ v := .iface u pv, recovered := true } :: older) ∧ w.setCell p (.bool false) = w' := by
  refine callsD_of_wpS Try.func61 rfl fun c₀ cs hu => ?_
  apply wpS_seq
  apply wpS_region
  simp [wpOpsS, go_sem, recoverD, hu, Try.ntmps61, Exit.thenS]
  refine wpS_cond (t := true) (by simp [Act.eval, Array.replicate]) ?_
  simp only [if_true]
  apply wpS_region
  simp [wpOpsS, go_sem, hc, hz, bodyPostS, results, Try.results61]

theorem catch_idle (p : Addr) (w : World) :
    CallsD Try.prog 61 #[.pointer (some p)] .returning w fun e u' w' => e = .returned (.tuple #[]) ∧ u' = .returning ∧ w = w' := by
  refine callsD_of_wpS Try.func61 rfl fun c₀ cs hu => ?_
  apply wpS_seq
  apply wpS_region
  simp [wpOpsS, go_sem, recoverD, hu, Try.ntmps61, Exit.thenS]
  refine wpS_cond (t := false) (by simp [Act.eval, Array.replicate]) ?_
  simp only [Bool.false_eq_true, if_false]
  refine wpS_of_wp (wp_skip ?_)
  cases c₀
  simp_all [bodyPostS, results, Try.results61]

theorem mkf (fn : Fn) (first cap : Array Value) (w : World) : (Instr.makeFunc fn first cap).run Try.prog w = .ok (.func fn first cap) w := rfl

def FinePost (b : Bool) (B : Nat) (G : World → Prop) (e : Ending) (w' : World) : Prop := ∃ w1, G w1 ∧ e = .returned (.bool b) ∧ w1.setCell ⟨B, 0, none⟩ (.bool b) = w'

theorem fine_ok (w : World) (k : FuncId) (caps : Array Value) (G : World → Prop) (he : ∀ args w, (callFunc k args).run Try.prog w = .ok (.enter k args) w)
    (hc : Calls Try.prog k caps (w.alloc (.cells #[.bool false] 4)) fun e w' => e = .returned (.tuple #[]) ∧ G w')
    (hG : ∀ w', G w' → w'.cell? ⟨w.heap.size, 0, none⟩ = some (.bool false) ∧ w'.frozen? ⟨w.heap.size, 0, none⟩ = false) :
    Calls Try.prog 46 #[.func (.func k) #[] caps] w (FinePost true w.heap.size G) := by
  have hmf := mkf
  have HC : Box _ := ⟨hc⟩
  have HG : Box _ := ⟨hG⟩
  clear hc hG
  go_enter_defers Try.func46, Try.ntmps46
  go_wp2_with fail
  refine HC.out.mono ?_
  rintro e w1 ⟨rfl, hg⟩
  obtain ⟨h1, h2⟩ := HG.out _ hg
  go_wp2_with fail
  refine leaves_cons (f := 61) (args := #[.pointer (some ⟨w.heap.size, 0, none⟩)]) (by simp) (by simp [go_sem]) ?_
  refine (catch_idle ⟨w.heap.size, 0, none⟩ _).mono ?_
  rintro e u' w'' ⟨rfl, rfl, rfl⟩
  have e : (w1.setCell ⟨w.heap.size, 0, none⟩ (.bool true)).cell? ⟨w.heap.size, 0, none⟩ = some (.bool true) := World.cell?_setCell_same _ _ _ h1
  simp [Leaves, settle, results, Try.results46, go_sem, e]
  exact ⟨w1, hg, rfl, rfl⟩

theorem fine_panic (w : World) (k : FuncId) (caps : Array Value) (G : World → Prop) (he : ∀ args w, (callFunc k args).run Try.prog w = .ok (.enter k args) w)
    (hc : Calls Try.prog k caps (w.alloc (.cells #[.bool false] 4)) fun e w' => (∃ u pv, e = .panicked [{ v := .iface u pv, recovered := false }]) ∧ G w')
    (hG : ∀ w', G w' → w'.cell? ⟨w.heap.size, 0, none⟩ = some (.bool false) ∧ w'.frozen? ⟨w.heap.size, 0, none⟩ = false) :
    Calls Try.prog 46 #[.func (.func k) #[] caps] w (FinePost false w.heap.size G) := by
  have hmf := mkf
  have HC : Box _ := ⟨hc⟩
  have HG : Box _ := ⟨hG⟩
  clear hc hG
  go_enter_defers Try.func46, Try.ntmps46
  go_wp2_with fail
  refine HC.out.mono ?_
  rintro e w1 ⟨⟨u, pv, rfl⟩, hg⟩
  obtain ⟨h1, h2⟩ := HG.out _ hg
  go_wp2_with fail
  refine leaves_cons (f := 61) (args := #[.pointer (some ⟨w.heap.size, 0, none⟩)]) (by simp) (by simp [go_sem]) ?_
  refine (catch_panicking ⟨w.heap.size, 0, none⟩ false u pv [] _ h1 h2).mono ?_
  rintro e u' w'' ⟨rfl, rfl, rfl⟩
  have e : (w1.setCell ⟨w.heap.size, 0, none⟩ (.bool false)).cell? ⟨w.heap.size, 0, none⟩ = some (.bool false) := World.cell?_setCell_same _ _ _ h1
  simp [Leaves, settle, results, Try.results46, go_sem, e]
  exact ⟨w1, hg, rfl, rfl⟩
end Go.Proofs.Ytibopfemknnocaa.Fine
