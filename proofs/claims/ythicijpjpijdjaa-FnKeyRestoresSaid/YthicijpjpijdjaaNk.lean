import Derived.Test.YthicijpjpijdjaaNj
import Derived.Maps.RangeRun
/-! a map that holds at most one revision -/
namespace Go.Proofs.Ythicijpjpijdjaa.Ld
open Go.RowKit Go.MapKept Go.Lib Go.Proofs.Ythicijpjpijdjaa Go.Proofs.Ythicijpjpijdjaa.Sl Go.Proofs.Ythicijpjpijdjaa.KyP Go.Proofs.Ythicijpjpijdjaa.Ka
set_option linter.unusedVariables false
set_option linter.unusedSimpArgs false
def mobj : Option Rv → Obj
  | none => .map #[] 0
  | some r => .map #[{ key := rk r, val := .agg #[], born := 0 }] 1
def MO (b : Nat) (o : Option Rv) : HProp := Obk b (mobj o)
/-- the loop over it; sn: its entry was seen -/
def iobj (b : Nat) (o : Option Rv) (sn : Bool) : Obj := match o, sn with
  | none, _ => .mapIter (some b) 0 #[] 0
  | some _, false => .mapIter (some b) 1 #[] 1
  | some _, true => .mapIter (some b) 1 #[0] 1
theorem check2 (d : Nat) (a : Int) (w : World) : (Instr.checkKey false (d + 1) 2 (.int .i64 a)).run Try.prog w = .ok () w := by
  unfold Instr.checkKey
  simp [run_underlying Try.underlying2 w]
theorem p0 (a b : Int) (w : World) : (part 2 #[.int .i64 a, .int .i64 b] 0).run Try.prog w = .ok (.int .i64 a) w := by
  unfold part
  simp [isAgg, run_underlying Try.underlying2 w]
theorem p1 (a b : Int) (w : World) : (part 2 #[.int .i64 a, .int .i64 b] 1).run Try.prog w = .ok (.int .i64 b) w := by
  unfold part
  simp [isAgg, run_underlying Try.underlying2 w]
theorem check81d (d : Nat) (r : Rv) (w : World) : (Instr.checkKey false (d + 1 + 1) 81 (rk r)).run Try.prog w = .ok () w := by
  unfold Instr.checkKey
  simp only [Sem.run_bind, run_underlying Try.underlying81 w, Result.andThen_ok, rk]
  rw [← Array.forIn_toList]
  simp [List.forIn_cons, List.forIn_nil, p0, p1, check2]
theorem check81 (r : Rv) (w : World) : (Instr.checkKey false 10000 81 (rk r)).run Try.prog w = .ok () w := check81d 9998 r w
section
variable {W : World} {Q : Exit → Act → World → Prop} {n : Nat} {l : List (Nat × Value)} {L : List HProp} {o : Oper} {G : World → Prop}
theorem Eff.moMake {t : TypeId} (ho : o.op = .makeMap t none) : Eff Try.prog W Q n l L o (fun u M => ∃ b, u = .map (some b) ∧ M = MO b none :: L) := fun a w hf hs K hK => by
  unfold Oper.wp
  have e : (execOp a.eval o).run Try.prog w = .ok (.value (.map (some w.heap.size))) (w.alloc (.map #[] 0)) := by
    simp [execOp, ho, Instr.makeMap, Result.andThen]
  rw [e, Oper.upon_value]
  exact hK _ _ _ ⟨_, rfl, rfl⟩ (hs.alloc _)
theorem Eff.moPut {x ix iv : Operand} {b : Nat} {r : Rv} (ho : o.op = .mapUpdate 145 x ix iv) (hx : ev l x = some (.map (some b))) (hi : ev l ix = some (rk r)) (hv : ev l iv = some (.agg #[])) : Eff Try.prog W Q n l (MO b none :: L) o (Sets (MO b (some r) :: L)) := fun a w hf hs K hK => by
  have hb : w.heap[b]? = some (.map #[] 0) := hs.head.obk
  have hr : (Instr.mapUpdate 145 (.map (some b)) (rk r) (.agg #[])).run Try.prog w = .ok () { w with heap := w.heap.setIfInBounds b (mobj (some r)) } := by
    simp [Instr.mapUpdate, run_underlying Try.underlying145 w, MapKept.run_getObj_map hb, check81, Instr.findKey, Instr.findNow, Instr.findAsking, MapKept.run_setObj_map _ hb, Result.andThen, mobj]
  have hh := heap_set (o' := mobj (some r)) hb
  unfold Oper.wp
  simp only [execOp, ho, hf.ev hx, hf.ev hi, hf.ev hv, Sem.run_bind, hr]
  exact hK undef _ _ rfl (hs.write _ rfl rfl rfl (by simp) hh.1 hh.2)
theorem Eff.moRange {x : Operand} {b : Nat} {q : Option Rv} (ho : o.op = .range 145 x) (hx : ev l x = some (.map (some b))) : Eff Try.prog W Q n l (MO b q :: L) o (fun u M => ∃ it, u = .pointer (some ⟨it, 0, none⟩) ∧ M = Obk it (iobj b q false) :: MO b q :: L) := fun a w hf hs K hK => by
  have hb : w.heap[b]? = some (mobj q) := hs.head.obk
  have hr : (Instr.range 145 (.map (some b))).run Try.prog w = .ok (.pointer (some ⟨w.heap.size, 0, none⟩)) (w.alloc (iobj b q false)) := by
    cases q with
    | none => exact run_range_map w 145 81 215 b #[] 0 Try.underlying145 hb
    | some r => exact run_range_map w 145 81 215 b _ 1 Try.underlying145 hb
  unfold Oper.wp
  simp only [execOp, ho, hf.ev hx, Sem.run_bind, hr]
  exact hK _ _ _ ⟨_, rfl, rfl⟩ (hs.alloc _)
/-- nothing is left -/
theorem Eff.moEnd {x : Operand} {it b : Nat} {q : Option Rv} {sn : Bool} (hq : q = none ∨ sn = true) (ho : o.op = .next x false) (hx : ev l x = some (.pointer (some ⟨it, 0, none⟩))) : Eff Try.prog W Q n l (Obk it (iobj b q sn) :: MO b q :: L) o (fun u M => u = .tuple #[.bool false] ∧ M = Obk it (iobj b q sn) :: MO b q :: L) := fun a w hf hs K hK => by
  have hr : w.heap[it]? = some (iobj b q sn) := hs.head.obk
  have hb : w.heap[b]? = some (mobj q) := hs.drop.head.obk
  have hn : (Instr.next (.pointer (some ⟨it, 0, none⟩)) false o.type).run Try.prog w = .ok (.tuple #[.bool false]) w := by
    cases q with
    | none =>
      rcases run_next_at (P := Try.prog) w o.type it b 0 0 #[] #[] 0 hr hb (by simp) (Nat.le_refl _) with ⟨-, h⟩ | ⟨e, he, -⟩
      · exact h
      · simp [leftOf] at he
    | some r =>
      obtain rfl : sn = true := hq.elim (fun h => by cases h) id
      rcases run_next_at (P := Try.prog) w o.type it b 1 1 #[0] _ 1 hr hb (by simp) (Nat.le_refl _) with ⟨-, h⟩ | ⟨e, he, -⟩
      · exact h
      · simp [leftOf] at he
  unfold Oper.wp
  simp only [execOp, ho, hf.ev hx, Sem.run_bind, hn]
  exact hK _ _ _ ⟨rfl, rfl⟩ hs
/-- the one revision comes -/
theorem Eff.moNext {x : Operand} {it b : Nat} {r : Rv} (ho : o.op = .next x false) (hx : ev l x = some (.pointer (some ⟨it, 0, none⟩))) : Eff Try.prog W Q n l (Obk it (iobj b (some r) false) :: MO b (some r) :: L) o (fun u M => u = .tuple #[.bool true, rk r, .agg #[]] ∧ M = Obk it (iobj b (some r) true) :: MO b (some r) :: L) := fun a w hf hs K hK => by
  have hr : w.heap[it]? = some (iobj b (some r) false) := hs.head.obk
  have hb : w.heap[b]? = some (mobj (some r)) := hs.drop.head.obk
  rcases run_next_at (P := Try.prog) w o.type it b 1 1 #[] _ 1 hr hb (by simp) (Nat.le_refl _) with ⟨h, -⟩ | ⟨e, he, w1, hw, hn⟩
  · simp [leftOf] at h
  · have he2 : e = { key := rk r, val := .agg #[], born := 0 } := by simpa [leftOf] using he
    subst he2
    unfold Oper.wp
    simp only [execOp, ho, hf.ev hx, Sem.run_bind, hn]
    refine hK _ _ _ ⟨rfl, rfl⟩ ?_
    have h1 : Sat W (Obk it (iobj b (some r) false) :: MO b (some r) :: L) w1 := by
      rcases hw with rfl | rfl
      · exact hs
      · exact hs.drew
    have hh := heap_set (o' := iobj b (some r) true) h1.head.obk
    exact h1.write _ rfl rfl rfl (by simp [Go.ChangeMaps.setBlock]) hh.1 hh.2
theorem Val.moEntry {x : Operand} {it b : Nat} {r : Rv} (ho : o.op = .entry x) (hx : ev l x = some (.pointer (some ⟨it, 0, none⟩))) (hi : ∀ w, G w → Holds (Obk it (iobj b (some r) true)) w) (hm : ∀ w, G w → Holds (MO b (some r)) w) : Val Try.prog n l G o (.tuple #[rk r, .agg #[]]) := fun a w hf hs => by
  have hr : w.heap[it]? = some (iobj b (some r) true) := (hi w hs).obk
  have hb : w.heap[b]? = some (mobj (some r)) := (hm w hs).obk
  have he := run_entry_at (P := Try.prog) w it b 1 #[] _ 1 { key := rk r, val := .agg #[], born := 0 } hr hb (by simp) (by simp)
  simp only [execOp, ho, hf.ev hx, Sem.run_bind, he]
  rfl
end
end Go.Proofs.Ythicijpjpijdjaa.Ld

namespace Go.Proofs.Ythicijpjpijdjaa.Le
open Go.RowKit Go.Proofs.Ythicijpjpijdjaa Go.Proofs.Ythicijpjpijdjaa.Sl Go.Proofs.Ythicijpjpijdjaa.KyP Go.Proofs.Ythicijpjpijdjaa.Ka Go.Proofs.Ythicijpjpijdjaa.Kb Go.Proofs.Ythicijpjpijdjaa.Kc Go.Proofs.Ythicijpjpijdjaa.Kd Go.Proofs.Ythicijpjpijdjaa.Ke Go.Proofs.Ythicijpjpijdjaa.Kf Go.Proofs.Ythicijpjpijdjaa.Kg Go.Proofs.Ythicijpjpijdjaa.Kh Go.Proofs.Ythicijpjpijdjaa.Ki Go.Proofs.Ythicijpjpijdjaa.Kj Go.Proofs.Ythicijpjpijdjaa.Kk Go.Proofs.Ythicijpjpijdjaa.Kl Go.Proofs.Ythicijpjpijdjaa.Km Go.Proofs.Ythicijpjpijdjaa.Kn Go.Proofs.Ythicijpjpijdjaa.Ko Go.Proofs.Ythicijpjpijdjaa.Kp Go.Proofs.Ythicijpjpijdjaa.Kq Go.Proofs.Ythicijpjpijdjaa.Kr Go.Proofs.Ythicijpjpijdjaa.Ks Go.Proofs.Ythicijpjpijdjaa.Kt Go.Proofs.Ythicijpjpijdjaa.Ku Go.Proofs.Ythicijpjpijdjaa.Kv Go.Proofs.Ythicijpjpijdjaa.Kw Go.Proofs.Ythicijpjpijdjaa.Kx Go.Proofs.Ythicijpjpijdjaa.Ky Go.Proofs.Ythicijpjpijdjaa.Kz Go.Proofs.Ythicijpjpijdjaa.La Go.Proofs.Ythicijpjpijdjaa.Lb Go.Proofs.Ythicijpjpijdjaa.Lc Go.Proofs.Ythicijpjpijdjaa.Ld
set_option linter.unusedVariables false
set_option linter.unusedSimpArgs false
set_option linter.unusedSectionVars false


/-- the revision that walk stops at -/
def wkr (rs : List Rv) (at_ : Int) : Option Rv := match wk rs at_ rs.length with
  | 0 => none
  | n + 1 => rs[n]?
theorem wkr_some {rs : List Rv} {at_ : Int} {n : Nat} {r : Rv} (h : wk rs at_ rs.length = n + 1) (hr : rs[n]? = some r) : wkr rs at_ = some r := by unfold wkr; rw [h]; exact hr
theorem wkr_none {rs : List Rv} {at_ : Int} (h : wk rs at_ rs.length = 0) : wkr rs at_ = none := by unfold wkr; rw [h]
/-- the first life, from i on, that ends at or above a number, or the last one -/
def gx (gs : List Gn) (at_ : Int) : Nat → Nat → Nat
  | 0, i => i
  | k + 1, i => match gs[i]? with
    | some g => if at_ ≤ lstM g then i else gx gs at_ k (i + 1)
    | none => i
theorem gx_stop {gs : List Gn} {at_ : Int} {k i : Nat} {g : Gn} (hg : gs[i]? = some g) (h : at_ ≤ lstM g) : gx gs at_ k i = i := by
  cases k with
  | zero => rfl
  | succ k => unfold gx; rw [hg]; dsimp only; rw [if_pos h]
theorem gx_go {gs : List Gn} {at_ : Int} {k i : Nat} {g : Gn} (hg : gs[i]? = some g) (h : ¬ at_ ≤ lstM g) : gx gs at_ (k + 1) i = gx gs at_ k (i + 1) := by
  conv => lhs; unfold gx
  rw [hg]; dsimp only; rw [if_neg h]
/-- all lives but the last one have a revision -/
def Full (gs : List Gn) : Prop := ∀ i g, gs[i]? = some g → i + 1 < gs.length → 0 < g.revs.length
set_option maxRecDepth 100000 in
set_option maxHeartbeats 2000000 in
theorem dc1_spec (r : Rv) (b4 b5 mb : Nat) (at_ : Int) : Does Try.prog 128 [.agg #[.int .i64 (r.m), .int .i64 (r.s)], .pointer (some ⟨b4, 0, none⟩), .pointer (some ⟨b5, 0, none⟩)] [Blk b4 [.int .i64 (at_)] 2, Blk b5 [.map (some mb)] 145, MO mb none] (fun v L => v = .bool (decide (at_ < r.m)) ∧ L = [Blk b4 [.int .i64 at_] 2, Blk b5 [.map (some mb)] 145, MO mb (if at_ < r.m then none else some r)]) := by
  refine Does.enter 12 Try.func128 rfl rfl rfl fun W F => ?_
  show WPc _ _ _ _ _ [(0, .agg #[.int .i64 (r.m), .int .i64 (r.s)]), (1, .pointer (some ⟨b4, 0, none⟩)), (2, .pointer (some ⟨b5, 0, none⟩))] (Blk b4 [.int .i64 (at_)] 2 :: Blk b5 [.map (some mb)] 145 :: MO mb none :: F)
  refine WPc.seq ?_
  refine WPc.region ?_
  refine WP.eff rfl rfl rfl (Eff.box (C := [.int .i64 (r.m), .int .i64 (r.s)]) rfl rfl rfl) ?_
  rintro _ _ ⟨b1, rfl, rfl⟩
  refine WP.val rfl rfl rfl (Val.assign rfl rfl) ?_
  refine WP.nil ?_
  refine Out.next ?_
  refine WPc.seq ?_
  refine WPc.seq ?_
  refine WPc.region ?_
  refine WP.val rfl rfl rfl (Val.fieldAddr (j := 0) rfl Ty.fo81_0 rfl rfl) ?_
  refine WP.val rfl rfl rfl (Val.load rfl Ty.sc2 rfl (fun w h => h.cell 0 rfl rfl)) ?_
  refine WP.val rfl rfl rfl (Val.load rfl Ty.sc2 rfl (fun w h => h.cell 1 rfl rfl)) ?_
  refine WP.val rfl rfl rfl (Val.leq rfl rfl rfl) ?_
  refine WP.nil ?_
  refine Out.next ?_
  refine WPc.ifP rfl (fun h1 => ?_) (fun h1 => ?_)
  · skip
    have h1 : (r.m ≤ at_) := h1
    refine WPc.seq ?_
    refine WPc.region ?_
    refine WP.val rfl rfl rfl (Val.load rfl Ty.sc145 rfl (fun w h => h.cell 2 rfl rfl)) ?_
    refine WP.val rfl rfl rfl (Val.loadAgg (cs := [.int .i64 (r.m), .int .i64 (r.s)]) rfl Ty.ag81 rfl rfl (fun w h => h.range 0 rfl rfl)) ?_
    refine WP.val rfl rfl rfl (Val.mk (cs := []) rfl rfl (fun _ => by kernel_rfl)) ?_
    refine WP.perm pl3 ?_
    refine WP.eff0 rfl rfl (Eff.moPut rfl rfl rfl rfl) ?_
    rintro _ _ rfl
    refine WP.nil ?_
    refine Out.next ?_
    refine WPc.seq ?_
    refine WPc.region ?_
    refine WP.val rfl rfl rfl (Val.assign rfl rfl) ?_
    refine WP.nil ?_
    refine Out.next ?_
    refine WPc.ret ?_
    refine Out.then_ret ?_
    refine Out.perm pl1 ?_
    refine Out.drop ?_
    refine Out.perm pl2 ?_
    refine Out.perm pl2 ?_
    exact Out.ret1 (L' := _) Try.results128 rfl ⟨congrArg Value.bool (decide_eq_false (by omega)).symm, rfl⟩ (fun w h => by rw [if_neg (show ¬ (at_ < r.m) by omega)]; exact h)
  · skip
    have h1 : ¬ (r.m ≤ at_) := h1
    refine WPc.skip ?_
    refine Out.next ?_
    refine WPc.seq ?_
    refine WPc.region ?_
    refine WP.val rfl rfl rfl (Val.assign rfl rfl) ?_
    refine WP.nil ?_
    refine Out.next ?_
    refine WPc.ret ?_
    refine Out.drop ?_
    exact Out.ret1 (L' := _) Try.results128 rfl ⟨congrArg Value.bool (decide_eq_true (by omega)).symm, rfl⟩ (fun w h => by rw [if_pos (show (at_ < r.m) by omega)]; exact h)
set_option maxRecDepth 100000 in
set_option maxHeartbeats 2000000 in
theorem walkdc_spec (A : HProp) (l : List GV) (b0 o0 : Nat) (hr : ∀ w, Holds A w → ∀ i x, l[i]? = some x → w.rangeAt b0 (o0 + i * 4) (GV.cells x)) (k : Nat) (g : Gn) (u : Value) (hx : l[k]? = some (g, u)) (hin1 : Rd A 2 Rv.cells u g.revs) (hsx : g.revs.length ≤ 200000) (b4 b5 mb : Nat) (at_ : Int) : Does Try.prog 113 [.pointer (some ⟨b0, o0 + k * 4, none⟩), .func (.func 128) #[] #[.pointer (some ⟨b4, 0, none⟩), .pointer (some ⟨b5, 0, none⟩)]] [Blk b4 [.int .i64 (at_)] 2, Blk b5 [.map (some mb)] 145, MO mb none, A] (fun v L => v = .int .i64 ((wk g.revs at_ g.revs.length : Int) - 1) ∧ L = [Blk b4 [.int .i64 at_] 2, Blk b5 [.map (some mb)] 145, MO mb (wkr g.revs at_), A]) := by
  refine Does.enter 40 Try.func113 rfl rfl rfl fun W F => ?_
  show WPc _ _ _ _ _ [(0, .pointer (some ⟨b0, o0 + k * 4, none⟩)), (1, .func (.func 128) #[] #[.pointer (some ⟨b4, 0, none⟩), .pointer (some ⟨b5, 0, none⟩)])] (Blk b4 [.int .i64 (at_)] 2 :: Blk b5 [.map (some mb)] 145 :: MO mb none :: A :: F)
  refine WPc.seq ?_
  refine WPc.region ?_
  refine WP.val rfl rfl rfl (Val.assign rfl rfl) ?_
  refine WP.nil ?_
  refine Out.next ?_
  refine WPc.seq ?_
  refine WPc.region ?_
  refine WP.val rfl rfl rfl (Val.move rfl rfl) ?_
  refine WP.val rfl rfl rfl (Val.nilCheck rfl rfl) ?_
  refine WP.val rfl rfl rfl (Val.fieldAddr (j := o0 + k * 4 + 3) rfl Ty.fo155_2 rfl rfl) ?_
  refine WP.val rfl rfl rfl (Val.load (v := u) rfl Ty.sc132 rfl (fun w h => hr w (h.at 3 rfl) k (g, u) hx 3 _ rfl)) ?_
  refine WP.val rfl rfl rfl (Rd.len hin1 rfl Ty.sl132 rfl) ?_
  refine WP.val rfl rfl rfl (Val.assign rfl rfl) ?_
  refine WP.nil ?_
  refine Out.next ?_
  refine WPc.seq ?_
  refine WPc.seq ?_
  refine WPc.region ?_
  refine WP.val rfl rfl rfl (Val.move rfl rfl) ?_
  refine WP.val rfl rfl rfl (Val.nilCheck rfl rfl) ?_
  refine WP.val rfl rfl rfl (Val.fieldAddr (j := o0 + k * 4 + 3) rfl Ty.fo155_2 rfl rfl) ?_
  refine WP.val rfl rfl rfl (Val.load (v := u) rfl Ty.sc132 rfl (fun w h => hr w (h.at 3 rfl) k (g, u) hx 3 _ rfl)) ?_
  refine WP.val rfl rfl rfl (Rd.len hin1 rfl Ty.sl132 rfl) ?_
  refine WP.val rfl rfl rfl (Val.move rfl rfl) ?_
  refine WP.nil ?_
  refine Out.next ?_
  refine WPc.block ?_
  refine WPc.loop (ι := Nat) (fun i => i ≤ g.revs.length ∧ wk g.revs at_ g.revs.length = wk g.revs at_ (g.revs.length - i)) (fun i => [(0, .pointer (some ⟨b0, o0 + k * 4, none⟩)), (1, .func (.func 128) #[] #[.pointer (some ⟨b4, 0, none⟩), .pointer (some ⟨b5, 0, none⟩)]), (5, .int .i64 (((g.revs.length : Nat) : Int))), (17, .int .i64 (((g.revs.length : Nat) : Int))), (18, .int .i64 (((i : Nat) : Int)))]) (fun i => Blk b4 [.int .i64 (at_)] 2 :: Blk b5 [.map (some mb)] 145 :: MO mb none :: A :: F) (fun i => g.revs.length - i) 0 ⟨Nat.zero_le _, rfl⟩ ((Sub.cons rfl (Sub.cons rfl (Sub.cons rfl (Sub.cons rfl (Sub.cons rfl Sub.nil)))))) (fun _ h => h) ?_
  rintro i ⟨hi, hwk⟩
  show WPc _ _ _ _ _ [(0, .pointer (some ⟨b0, o0 + k * 4, none⟩)), (1, .func (.func 128) #[] #[.pointer (some ⟨b4, 0, none⟩), .pointer (some ⟨b5, 0, none⟩)]), (5, .int .i64 (((g.revs.length : Nat) : Int))), (17, .int .i64 (((g.revs.length : Nat) : Int))), (18, .int .i64 (((i : Nat) : Int)))] (Blk b4 [.int .i64 (at_)] 2 :: Blk b5 [.map (some mb)] 145 :: MO mb none :: A :: F)
  refine WPc.seq ?_
  refine WPc.region ?_
  refine WP.val rfl rfl rfl (Val.lss rfl rfl rfl) ?_
  refine WP.nil ?_
  refine Out.next ?_
  refine WPc.seq ?_
  refine WPc.ifP rfl (fun h1 => ?_) (fun h1 => ?_)
  · skip
    have h1 : (((i : Nat) : Int) < ((g.revs.length : Nat) : Int)) := h1
    refine WPc.skip ?_
    refine Out.next ?_
    refine WPc.seq ?_
    refine WPc.block ?_
    refine WPc.seq ?_
    refine WPc.region ?_
    refine WP.val rfl rfl rfl (Val.move rfl rfl) ?_
    refine WP.val rfl rfl rfl (Val.assign rfl rfl) ?_
    refine WP.nil ?_
    refine Out.next ?_
    refine WPc.seq ?_
    obtain ⟨bi, oi, ci, rfl, hri⟩ := Rd.row hin1 (by omega)
    obtain ⟨y, hy⟩ : ∃ y, g.revs[g.revs.length - i - 1]? = some y := ⟨_, List.getElem?_eq_getElem (by omega)⟩
    have hst := wk_step (at_ := at_) hy
    rw [show g.revs.length - i - 1 + 1 = g.revs.length - i from by omega] at hst
    refine WPc.region ?_
    refine WP.val rfl rfl rfl (Val.move rfl rfl) ?_
    refine WP.val rfl rfl rfl (Val.move rfl rfl) ?_
    refine WP.val rfl rfl rfl (Val.nilCheck rfl rfl) ?_
    refine WP.val rfl rfl rfl (Val.fieldAddr (j := o0 + k * 4 + 3) rfl Ty.fo155_2 rfl rfl) ?_
    refine WP.val rfl rfl rfl (Val.load (v := .slice (some ⟨bi, oi, none⟩) g.revs.length ci) rfl Ty.sc132 rfl (fun w h => hr w (h.at 3 rfl) k (g, _) hx 3 _ rfl)) ?_
    refine WP.val rfl rfl rfl (Val.move rfl rfl) ?_
    refine WP.val rfl rfl rfl (Val.move rfl rfl) ?_
    refine WP.val rfl rfl rfl (Val.sub (z := ((g.revs.length - i : Nat) : Int)) rfl rfl rfl ((w64 (by omega) (by omega)).trans (by omega))) ?_
    refine WP.val rfl rfl rfl (Val.sub (z := ((g.revs.length - i - 1 : Nat) : Int)) rfl rfl rfl ((w64 (by omega) (by omega)).trans (by omega))) ?_
    refine WP.val rfl rfl rfl (Val.indexAddr (j := g.revs.length - i - 1) (q := oi + (g.revs.length - i - 1) * 2) rfl Ty.sl132 rfl rfl (by omega) (by omega) (by omega)) ?_
    refine WP.val rfl rfl rfl (Val.loadAgg (cs := (Rv.cells y)) rfl Ty.ag81 rfl (by rfl) (fun w h => hri w (h.at 3 rfl) _ y hy)) ?_
    refine WP.perm pl2 ?_
    refine WP.perm pl2 ?_
    refine WP.perm pl2 ?_
    refine WP.eff rfl rfl rfl (Eff.callF (args' := [.agg #[.int .i64 (y.m), .int .i64 (y.s)], .pointer (some ⟨b4, 0, none⟩), .pointer (some ⟨b5, 0, none⟩)]) rfl rfl rfl rfl Try.call128 (dc1_spec y b4 b5 mb at_)) ?_
    rintro _ _ ⟨_, ⟨rfl, rfl⟩, rfl⟩
    show WP _ _ _ _ _ _ _ (Blk b4 [.int .i64 (at_)] 2 :: Blk b5 [.map (some mb)] 145 :: MO mb (if at_ < y.m then none else some y) :: A :: F)
    refine WP.val rfl rfl rfl (Val.assign rfl rfl) ?_
    refine WP.nil ?_
    refine Out.next ?_
    refine WPc.seq ?_
    refine WPc.region ?_
    refine WP.val rfl rfl rfl (Val.move rfl rfl) ?_
    refine WP.val rfl rfl rfl (Val.notP rfl rfl) ?_
    refine WP.nil ?_
    refine Out.next ?_
    refine WPc.ifP rfl (fun h2 => ?_) (fun h2 => ?_)
    · skip
      have h2 : (¬ (at_ < y.m)) := h2
      refine WPc.seq ?_
      refine WPc.perm pl2 ?_
      refine WPc.conv (M := MO mb (some y) :: Blk b4 [.int .i64 (at_)] 2 :: Blk b5 [.map (some mb)] 145 :: A :: F) (fun w h => by rw [if_neg (show ¬ (at_ < y.m) by omega)] at h; exact h) ?_
      refine WPc.region ?_
      refine WP.val rfl rfl rfl (Val.move rfl rfl) ?_
      refine WP.val rfl rfl rfl (Val.move rfl rfl) ?_
      refine WP.val rfl rfl rfl (Val.sub (z := ((g.revs.length - i : Nat) : Int)) rfl rfl rfl ((w64 (by omega) (by omega)).trans (by omega))) ?_
      refine WP.val rfl rfl rfl (Val.sub (z := ((g.revs.length - i - 1 : Nat) : Int)) rfl rfl rfl ((w64 (by omega) (by omega)).trans (by omega))) ?_
      refine WP.val rfl rfl rfl (Val.assign rfl rfl) ?_
      refine WP.nil ?_
      refine Out.next ?_
      refine WPc.ret ?_
      refine Out.block_ret ?_
      refine Out.then_ret ?_
      refine Out.then_ret ?_
      refine Out.block_ret ?_
      refine Out.then_ret ?_
      have hwn : wk g.revs at_ g.revs.length = g.revs.length - i := by rw [hwk, hst, if_neg (by omega)]
      refine Out.perm pl3 ?_
      refine Out.perm pl1 ?_
      refine Out.perm pl3 ?_
      refine Out.perm pl3 ?_
      exact Out.ret1 (L' := _) Try.results113 rfl ⟨congrArg (Value.int .i64) (show _ = (wk g.revs at_ g.revs.length : Int) - 1 from by rw [hwn]; omega), rfl⟩ (fun w h => by rw [wkr_some (n := g.revs.length - i - 1) (by rw [hwn]; omega) hy]; exact h)
    · skip
      have h2 : ¬ (¬ (at_ < y.m)) := h2
      refine WPc.skip ?_
      refine Out.block ?_
      refine Out.next ?_
      refine WPc.perm pl2 ?_
      refine WPc.conv (M := MO mb none :: Blk b4 [.int .i64 (at_)] 2 :: Blk b5 [.map (some mb)] 145 :: A :: F) (fun w h => by rw [if_pos (show (at_ < y.m) by omega)] at h; exact h) ?_
      refine WPc.region ?_
      refine WP.val rfl rfl rfl (Val.add (z := ((i + 1 : Nat) : Int)) rfl rfl rfl ((w64 (by omega) (by omega)).trans (by omega))) ?_
      refine WP.val rfl rfl rfl (Val.move rfl rfl) ?_
      refine WP.nil ?_
      refine Out.perm pl3 ?_
      refine Out.perm pl1 ?_
      refine Out.perm pl3 ?_
      refine Out.perm pl3 ?_
      refine Out.again (i + 1) ?_ ?_ ?_ ?_
      · exact (by refine ⟨by omega, hwk.trans ?_⟩; rw [hst, if_pos (by omega)]; rfl)
      · first | omega | (dsimp only; omega)
      · exact (Sub.cons rfl (Sub.cons rfl (Sub.cons rfl (Sub.cons rfl (Sub.cons rfl Sub.nil)))))
      · exact (fun _ h => h)
  · skip
    have h1 : ¬ (((i : Nat) : Int) < ((g.revs.length : Nat) : Int)) := h1
    refine WPc.exit ?_
    refine Out.then_exit ?_
    refine Out.then_exit ?_
    refine Out.block_exit ?_
    refine Out.next ?_
    refine WPc.seq ?_
    refine WPc.region ?_
    refine WP.val rfl rfl rfl (Val.assign rfl rfl) ?_
    refine WP.nil ?_
    refine Out.next ?_
    refine WPc.ret ?_
    have hwn : wk g.revs at_ g.revs.length = 0 := by rw [hwk, show g.revs.length - i = 0 from by omega]; rfl
    exact Out.ret1 (L' := _) Try.results113 rfl ⟨congrArg (Value.int .i64) (show _ = (wk g.revs at_ g.revs.length : Int) - 1 from by rw [hwn]; rfl), rfl⟩ (fun w h => by rw [wkr_none hwn]; exact h)
set_option maxRecDepth 100000 in
set_option maxHeartbeats 2000000 in
theorem docompact_spec (A : HProp) (b : Nat) (ka : Option Addr) (kn kc : Nat) (md : Rv) (at_ : Int) (mb : Nat) (l : List GV) (hsm : Small (l.map (·.1))) (hin : ∀ p ∈ l, Rd A 2 Rv.cells p.2 p.1.revs) (hne : 0 < l.length) (hfull : Full (l.map (·.1))) (b0 o0 c0 : Nat) (hr : ∀ w, Holds A w → ∀ i x, l[i]? = some x → w.rangeAt b0 (o0 + i * 4) (GV.cells x)) : Does Try.prog 117 [.pointer (some ⟨b, 0, none⟩), .int .i64 (at_), .map (some mb)] [Blk b [.slice ka kn kc, .int .i64 (md.m), .int .i64 (md.s), .slice (some ⟨b0, o0, none⟩) l.length c0] 153, A, MO mb none] (fun v L => ∃ (i : Nat) (g : Gn), i < l.length ∧ (l.map (·.1))[i]? = some g ∧ gx (l.map (·.1)) at_ (l.length - 1) 0 = i ∧ v = .tuple #[.int .i64 (i : Int), .int .i64 ((wk g.revs at_ g.revs.length : Int) - 1)] ∧ L = [Blk b [.slice ka kn kc, .int .i64 md.m, .int .i64 md.s, .slice (some ⟨b0, o0, none⟩) l.length c0] 153, A, MO mb (wkr g.revs at_)]) := by
  have hlen := hsm.len
  refine Does.enter 54 Try.func117 rfl rfl rfl fun W F => ?_
  show WPc _ _ _ _ _ [(0, .pointer (some ⟨b, 0, none⟩)), (1, .int .i64 (at_)), (2, .map (some mb))] (Blk b [.slice ka kn kc, .int .i64 (md.m), .int .i64 (md.s), .slice (some ⟨b0, o0, none⟩) l.length c0] 153 :: A :: MO mb none :: F)
  refine WPc.seq ?_
  refine WPc.region ?_
  refine WP.eff rfl rfl rfl (Eff.box (C := [.int .i64 (at_)]) rfl rfl rfl) ?_
  rintro _ _ ⟨b1, rfl, rfl⟩
  refine WP.eff rfl rfl rfl (Eff.box (C := [.map (some mb)]) rfl rfl rfl) ?_
  rintro _ _ ⟨b2, rfl, rfl⟩
  refine WP.val rfl rfl rfl (Val.assign rfl rfl) ?_
  refine WP.val rfl rfl rfl (Val.assign rfl rfl) ?_
  refine WP.nil ?_
  refine Out.next ?_
  refine WPc.seq ?_
  refine WPc.region ?_
  refine WP.val rfl rfl rfl (Val.mkFunc rfl rfl rfl) ?_
  refine WP.val rfl rfl rfl (Val.assign rfl rfl) ?_
  refine WP.nil ?_
  refine Out.next ?_
  refine WPc.seq ?_
  refine WPD.start (Sat W (Blk b2 [.map (some mb)] 145 :: Blk b1 [.int .i64 (at_)] 2 :: Blk b [.slice ka kn kc, .int .i64 (md.m), .int .i64 (md.s), .slice (some ⟨b0, o0, none⟩) l.length c0] 153 :: A :: MO mb none :: F)) Ty.mixed ?_
  refine WPD.takeM 0 rfl rfl rfl rfl (by kernel_rfl) (by kernel_rfl) (by kernel_rfl) (by kernel_rfl) (fun _ _ _ h => h) (fun _ h => h) (Val.move rfl rfl) ?_
  refine WPD.takeM 1 rfl rfl rfl rfl (by kernel_rfl) (by kernel_rfl) (by kernel_rfl) (by kernel_rfl) (fun _ _ _ h => h) (fun _ h => h) (Val.nilCheck rfl rfl) ?_
  refine WPD.takeM 2 rfl rfl rfl rfl (by kernel_rfl) (by kernel_rfl) (by kernel_rfl) (by kernel_rfl) (fun _ _ _ h => h) (fun _ h => h) (Val.fieldAddr (j := 3) rfl Ty.fo153_2 rfl rfl) ?_
  refine WPD.take 3 rfl rfl rfl rfl (by kernel_rfl) (by kernel_rfl) (by kernel_rfl) (by kernel_rfl) (fun _ _ _ h => h) (by kernel_rfl) (fun _ h => h) (Val.load rfl Ty.sc151 rfl (fun w h => h.cell 2 rfl rfl)) ?_
  refine WPD.takeM 4 rfl rfl rfl rfl (by kernel_rfl) (by kernel_rfl) (by kernel_rfl) (by kernel_rfl) (fun _ _ _ h => h) (fun _ h => h) (Val.indexAddr (j := 0) (q := o0 + 0 * 4) rfl Ty.sl151 rfl rfl (by omega) (by omega) (by omega)) ?_
  refine WPD.takeM 5 rfl rfl rfl rfl (by kernel_rfl) (by kernel_rfl) (by kernel_rfl) (by kernel_rfl) (fun _ _ _ h => h) (fun _ h => h) (Val.assign rfl rfl) ?_
  refine WPD.takeM 6 rfl rfl rfl rfl (by kernel_rfl) (by kernel_rfl) (by kernel_rfl) (by kernel_rfl) (fun _ _ _ h => h) (fun _ h => h) (Val.assign rfl rfl) ?_
  refine WPD.done (by kernel_rfl) ?_
  refine Out.next ?_
  refine WPc.cut (ι := Nat) (fun i => i < l.length ∧ gx (l.map (·.1)) at_ (l.length - 1) 0 = i) (fun i => [(0, .pointer (some ⟨b, 0, none⟩)), (4, .pointer (some ⟨b1, 0, none⟩)), (6, .int .i64 (((i : Nat) : Int))), (8, .func (.func 128) #[] #[.pointer (some ⟨b1, 0, none⟩), .pointer (some ⟨b2, 0, none⟩)]), (9, .pointer (some ⟨b0, o0 + i * 4, none⟩))]) (fun i => Blk b1 [.int .i64 (at_)] 2 :: Blk b2 [.map (some mb)] 145 :: MO mb none :: Blk b [.slice ka kn kc, .int .i64 (md.m), .int .i64 (md.s), .slice (some ⟨b0, o0, none⟩) l.length c0] 153 :: A :: F) ?_ ?_
  · skip
    refine WPc.block ?_
    refine WPc.perm pl3 ?_
    refine WPc.perm pl3 ?_
    refine WPc.perm pl4 ?_
    refine WPc.perm pl3 ?_
    refine WPc.perm pl4 ?_
    refine WPc.loop (ι := Nat) (fun i => i < l.length ∧ gx (l.map (·.1)) at_ (l.length - 1) 0 = gx (l.map (·.1)) at_ (l.length - 1 - i) i) (fun i => [(0, .pointer (some ⟨b, 0, none⟩)), (4, .pointer (some ⟨b1, 0, none⟩)), (6, .int .i64 (((i : Nat) : Int))), (8, .func (.func 128) #[] #[.pointer (some ⟨b1, 0, none⟩), .pointer (some ⟨b2, 0, none⟩)]), (9, .pointer (some ⟨b0, o0 + i * 4, none⟩))]) (fun i => Blk b1 [.int .i64 (at_)] 2 :: Blk b2 [.map (some mb)] 145 :: MO mb none :: Blk b [.slice ka kn kc, .int .i64 (md.m), .int .i64 (md.s), .slice (some ⟨b0, o0, none⟩) l.length c0] 153 :: A :: F) (fun i => l.length - i) 0 ⟨hne, rfl⟩ ((Sub.cons rfl (Sub.cons rfl (Sub.cons rfl (Sub.cons rfl (Sub.cons rfl Sub.nil)))))) (fun _ h => h) ?_
    rintro i ⟨hi, hgx⟩
    show WPc _ _ _ _ _ [(0, .pointer (some ⟨b, 0, none⟩)), (4, .pointer (some ⟨b1, 0, none⟩)), (6, .int .i64 (((i : Nat) : Int))), (8, .func (.func 128) #[] #[.pointer (some ⟨b1, 0, none⟩), .pointer (some ⟨b2, 0, none⟩)]), (9, .pointer (some ⟨b0, o0 + i * 4, none⟩))] (Blk b1 [.int .i64 (at_)] 2 :: Blk b2 [.map (some mb)] 145 :: MO mb none :: Blk b [.slice ka kn kc, .int .i64 (md.m), .int .i64 (md.s), .slice (some ⟨b0, o0, none⟩) l.length c0] 153 :: A :: F)
    refine WPc.seq ?_
    refine WPc.seq ?_
    refine WPc.region ?_
    refine WP.val rfl rfl rfl (Val.move rfl rfl) ?_
    refine WP.val rfl rfl rfl (Val.move rfl rfl) ?_
    refine WP.val rfl rfl rfl (Val.nilCheck rfl rfl) ?_
    refine WP.val rfl rfl rfl (Val.fieldAddr (j := 3) rfl Ty.fo153_2 rfl rfl) ?_
    refine WP.val rfl rfl rfl (Val.load rfl Ty.sc151 rfl (fun w h => h.cell 3 rfl rfl)) ?_
    refine WP.val rfl rfl rfl (Val.len rfl Ty.sl151 rfl) ?_
    refine WP.val rfl rfl rfl (Val.sub (z := ((l.length - 1 : Nat) : Int)) rfl rfl rfl ((w64 (by omega) (by omega)).trans (by omega))) ?_
    refine WP.val rfl rfl rfl (Val.lss rfl rfl rfl) ?_
    refine WP.nil ?_
    refine Out.next ?_
    refine WPc.ifP rfl (fun h1 => ?_) (fun h1 => ?_)
    · skip
      have h1 : (((i : Nat) : Int) < ((l.length - 1 : Nat) : Int)) := h1
      refine WPc.skip ?_
      refine Out.next ?_
      refine WPc.block ?_
      refine WPc.seq ?_
      refine WPc.seq ?_
      have hlt : i < l.length := by omega
      obtain ⟨⟨g, u⟩, hx⟩ : ∃ x, l[i]? = some x := ⟨_, List.getElem?_eq_getElem hlt⟩
      have hxm : (g, u) ∈ l := List.mem_iff_getElem?.2 ⟨_, hx⟩
      have hin1 : Rd A 2 Rv.cells u g.revs := hin _ hxm
      have hsx : g.revs.length ≤ 200000 := hsm.inn hxm
      have hgj : (l.map (·.1))[i]? = some g := by rw [List.getElem?_map, hx]; rfl
      have hpos : 0 < g.revs.length := hfull i g hgj (by rw [List.length_map]; omega)
      obtain ⟨bi, oi, ci, rfl, hri⟩ := Rd.row hin1 (by omega)
      obtain ⟨y0, hy0⟩ : ∃ y, g.revs[0]? = some y := ⟨_, List.getElem?_eq_getElem (by omega)⟩
      obtain ⟨y1, hy1⟩ : ∃ y, g.revs[g.revs.length - 1]? = some y := ⟨_, List.getElem?_eq_getElem (by omega)⟩
      have hf0 := fst_at hy0
      have hl1 := lst_at hy1
      refine WPD.start (Sat W (Blk b1 [.int .i64 (at_)] 2 :: Blk b2 [.map (some mb)] 145 :: MO mb none :: Blk b [.slice ka kn kc, .int .i64 (md.m), .int .i64 (md.s), .slice (some ⟨b0, o0, none⟩) l.length c0] 153 :: A :: F)) Ty.mixed ?_
      refine WPD.takeM 0 rfl rfl rfl rfl (by kernel_rfl) (by kernel_rfl) (by kernel_rfl) (by kernel_rfl) (fun _ _ _ h => h) (fun _ h => h) (Val.move rfl rfl) ?_
      refine WPD.takeM 1 rfl rfl rfl rfl (by kernel_rfl) (by kernel_rfl) (by kernel_rfl) (by kernel_rfl) (fun _ _ _ h => h) (fun _ h => h) (Val.nilCheck rfl rfl) ?_
      refine WPD.takeM 2 rfl rfl rfl rfl (by kernel_rfl) (by kernel_rfl) (by kernel_rfl) (by kernel_rfl) (fun _ _ _ h => h) (fun _ h => h) (Val.fieldAddr (j := o0 + i * 4 + 3) rfl Ty.fo155_2 rfl rfl) ?_
      refine WPD.take 3 rfl rfl rfl rfl (by kernel_rfl) (by kernel_rfl) (by kernel_rfl) (by kernel_rfl) (fun _ _ _ h => h) (by kernel_rfl) (fun _ h => h) (Val.load (v := .slice (some ⟨bi, oi, none⟩) g.revs.length ci) rfl Ty.sc132 rfl (fun w h => hr w (h.at 4 rfl) i (g, _) hx 3 _ rfl)) ?_
      refine WPD.takeM 4 rfl rfl rfl rfl (by kernel_rfl) (by kernel_rfl) (by kernel_rfl) (by kernel_rfl) (fun _ _ _ h => h) (fun _ h => h) (Val.move rfl rfl) ?_
      refine WPD.takeM 5 rfl rfl rfl rfl (by kernel_rfl) (by kernel_rfl) (by kernel_rfl) (by kernel_rfl) (fun _ _ _ h => h) (fun _ h => h) (Val.nilCheck rfl rfl) ?_
      refine WPD.takeM 6 rfl rfl rfl rfl (by kernel_rfl) (by kernel_rfl) (by kernel_rfl) (by kernel_rfl) (fun _ _ _ h => h) (fun _ h => h) (Val.fieldAddr (j := o0 + i * 4 + 3) rfl Ty.fo155_2 rfl rfl) ?_
      refine WPD.take 7 rfl rfl rfl rfl (by kernel_rfl) (by kernel_rfl) (by kernel_rfl) (by kernel_rfl) (fun _ _ _ h => h) (by kernel_rfl) (fun _ h => h) (Val.load (v := .slice (some ⟨bi, oi, none⟩) g.revs.length ci) rfl Ty.sc132 rfl (fun w h => hr w (h.at 4 rfl) i (g, _) hx 3 _ rfl)) ?_
      refine WPD.take 8 rfl rfl rfl rfl (by kernel_rfl) (by kernel_rfl) (by kernel_rfl) (by kernel_rfl) (fun _ _ _ h => h) (by kernel_rfl) (fun _ h => h) (Val.len rfl Ty.sl132 rfl) ?_
      refine WPD.takeM 9 rfl rfl rfl rfl (by kernel_rfl) (by kernel_rfl) (by kernel_rfl) (by kernel_rfl) (fun _ _ _ h => h) (fun _ h => h) (Val.sub (z := ((g.revs.length - 1 : Nat) : Int)) rfl rfl rfl ((w64 (by omega) (by omega)).trans (by omega))) ?_
      refine WPD.takeM 10 rfl rfl rfl rfl (by kernel_rfl) (by kernel_rfl) (by kernel_rfl) (by kernel_rfl) (fun _ _ _ h => h) (fun _ h => h) (Val.indexAddr (j := g.revs.length - 1) (q := oi + (g.revs.length - 1) * 2) rfl Ty.sl132 rfl rfl (by omega) (by omega) (by omega)) ?_
      refine WPD.takeM 11 rfl rfl rfl rfl (by kernel_rfl) (by kernel_rfl) (by kernel_rfl) (by kernel_rfl) (fun _ _ _ h => h) (fun _ h => h) (Val.fieldAddr (j := oi + (g.revs.length - 1) * 2) rfl Ty.fo81_0 rfl rfl) ?_
      refine WPD.take 12 rfl rfl rfl rfl (by kernel_rfl) (by kernel_rfl) (by kernel_rfl) (by kernel_rfl) (fun _ _ _ h => h) (by kernel_rfl) (fun _ h => h) (Val.load (v := .int .i64 (y1.m)) rfl Ty.sc2 rfl (fun w h => hri w (h.at 4 rfl) _ y1 hy1 0 _ rfl)) ?_
      refine WPD.takeM 13 rfl rfl rfl rfl (by kernel_rfl) (by kernel_rfl) (by kernel_rfl) (by kernel_rfl) (fun _ _ _ h => h) (fun _ h => h) (Val.assign rfl rfl) ?_
      refine WPD.done (by kernel_rfl) ?_
      refine Out.next ?_
      refine WPc.seq ?_
      refine WPc.region ?_
      refine WP.val rfl rfl rfl (Val.move rfl rfl) ?_
      refine WP.val rfl rfl rfl (Val.load rfl Ty.sc2 rfl (fun w h => h.cell 0 rfl rfl)) ?_
      refine WP.val rfl rfl rfl (Val.geq rfl rfl rfl) ?_
      refine WP.nil ?_
      refine Out.next ?_
      refine WPc.ifP rfl (fun h2 => ?_) (fun h2 => ?_)
      · skip
        have h2 : (at_ ≤ y1.m) := h2
        refine WPc.exit ?_
        refine Out.then_exit ?_
        refine Out.block_other rfl ?_
        refine Out.then_exit ?_
        refine Out.block_exit ?_
        refine Out.meet i ?_ ?_ ?_
        · exact ⟨hi, hgx.trans (gx_stop hgj (by omega))⟩
        · exact (Sub.cons rfl (Sub.cons rfl (Sub.cons rfl (Sub.cons rfl (Sub.cons rfl Sub.nil)))))
        · exact (fun _ h => h)
      · skip
        have h2 : ¬ (at_ ≤ y1.m) := h2
        refine WPc.skip ?_
        refine Out.next ?_
        refine WPc.seq ?_
        refine WPc.region ?_
        refine WP.val rfl rfl rfl (Val.move rfl rfl) ?_
        refine WP.val rfl rfl rfl (Val.add (z := ((i + 1 : Nat) : Int)) rfl rfl rfl ((w64 (by omega) (by omega)).trans (by omega))) ?_
        refine WP.val rfl rfl rfl (Val.assign rfl rfl) ?_
        refine WP.nil ?_
        refine Out.next ?_
        refine WPc.region ?_
        refine WP.val rfl rfl rfl (Val.move rfl rfl) ?_
        refine WP.val rfl rfl rfl (Val.nilCheck rfl rfl) ?_
        refine WP.val rfl rfl rfl (Val.fieldAddr (j := 3) rfl Ty.fo153_2 rfl rfl) ?_
        refine WP.val rfl rfl rfl (Val.load rfl Ty.sc151 rfl (fun w h => h.cell 3 rfl rfl)) ?_
        refine WP.val rfl rfl rfl (Val.move rfl rfl) ?_
        refine WP.val rfl rfl rfl (Val.indexAddr (j := i + 1) (q := o0 + (i + 1) * 4) rfl Ty.sl151 rfl rfl (by omega) (by omega) (by omega)) ?_
        refine WP.val rfl rfl rfl (Val.assign rfl rfl) ?_
        refine WP.nil ?_
        refine Out.block ?_
        refine Out.again (i + 1) ?_ ?_ ?_ ?_
        · exact (by refine ⟨by omega, hgx.trans ?_⟩; rw [show l.length - 1 - i = (l.length - 1 - (i + 1)) + 1 from by omega]; exact gx_go hgj (by omega))
        · first | omega | (dsimp only; omega)
        · exact (Sub.cons rfl (Sub.cons rfl (Sub.cons rfl (Sub.cons rfl (Sub.cons rfl Sub.nil)))))
        · exact (fun _ h => h)
    · skip
      have h1 : ¬ (((i : Nat) : Int) < ((l.length - 1 : Nat) : Int)) := h1
      refine WPc.exit ?_
      refine Out.then_exit ?_
      refine Out.then_exit ?_
      refine Out.block_exit ?_
      refine Out.meet i ?_ ?_ ?_
      · exact ⟨hi, by rw [hgx, show l.length - 1 - i = 0 from by omega]; rfl⟩
      · exact (Sub.cons rfl (Sub.cons rfl (Sub.cons rfl (Sub.cons rfl (Sub.cons rfl Sub.nil)))))
      · exact (fun _ h => h)
  · skip
    rintro i ⟨hi, hgx⟩
    show WPc _ _ _ _ _ [(0, .pointer (some ⟨b, 0, none⟩)), (4, .pointer (some ⟨b1, 0, none⟩)), (6, .int .i64 (((i : Nat) : Int))), (8, .func (.func 128) #[] #[.pointer (some ⟨b1, 0, none⟩), .pointer (some ⟨b2, 0, none⟩)]), (9, .pointer (some ⟨b0, o0 + i * 4, none⟩))] (Blk b1 [.int .i64 (at_)] 2 :: Blk b2 [.map (some mb)] 145 :: MO mb none :: Blk b [.slice ka kn kc, .int .i64 (md.m), .int .i64 (md.s), .slice (some ⟨b0, o0, none⟩) l.length c0] 153 :: A :: F)
    have hlt : i < l.length := by omega
    obtain ⟨⟨g, u⟩, hx⟩ : ∃ x, l[i]? = some x := ⟨_, List.getElem?_eq_getElem hlt⟩
    have hxm : (g, u) ∈ l := List.mem_iff_getElem?.2 ⟨_, hx⟩
    have hin1 : Rd A 2 Rv.cells u g.revs := hin _ hxm
    have hsx : g.revs.length ≤ 200000 := hsm.inn hxm
    have hgj : (l.map (·.1))[i]? = some g := by rw [List.getElem?_map, hx]; rfl
    refine WPc.seq ?_
    refine WPc.region ?_
    refine WP.val rfl rfl rfl (Val.move rfl rfl) ?_
    refine WP.val rfl rfl rfl (Val.move rfl rfl) ?_
    refine WP.perm pl4 ?_
    refine WP.perm pl3 ?_
    refine WP.perm pl3 ?_
    refine WP.perm pl3 ?_
    refine WP.eff rfl rfl rfl (Eff.call rfl rfl Try.call113 (walkdc_spec A l b0 o0 hr i g u hx hin1 hsx b1 b2 mb at_)) ?_
    rintro _ _ ⟨_, ⟨rfl, rfl⟩, rfl⟩
    show WP _ _ _ _ _ _ _ (Blk b1 [.int .i64 (at_)] 2 :: Blk b2 [.map (some mb)] 145 :: MO mb (wkr g.revs at_) :: A :: Blk b [.slice ka kn kc, .int .i64 (md.m), .int .i64 (md.s), .slice (some ⟨b0, o0, none⟩) l.length c0] 153 :: F)
    refine WP.val rfl rfl rfl (Val.assign rfl rfl) ?_
    refine WP.nil ?_
    refine Out.next ?_
    refine WPc.seq ?_
    refine WPc.region ?_
    refine WP.val rfl rfl rfl (Val.move rfl rfl) ?_
    refine WP.val rfl rfl rfl (Val.move rfl rfl) ?_
    refine WP.val rfl rfl rfl (Val.assign rfl rfl) ?_
    refine WP.val rfl rfl rfl (Val.assign rfl rfl) ?_
    refine WP.nil ?_
    refine Out.next ?_
    refine WPc.ret ?_
    refine Out.drop ?_
    refine Out.drop ?_
    refine Out.perm pl1 ?_
    refine Out.perm pl2 ?_
    exact Out.ret2 (L' := _) Try.results117 rfl rfl ⟨i, g, hi, hgj, hgx, rfl, rfl⟩ (fun _ h => h)
set_option maxRecDepth 100000 in
set_option maxHeartbeats 2000000 in
theorem gempty_own (b0 off : Nat) (C : List Value) (ua : Option Addr) (un uc : Nat) (hC : C[off + 3]? = some (.slice ua un uc)) : Does Try.prog 112 [.pointer (some ⟨b0, off, none⟩)] [Blk b0 C 155] (fun v L => v = .bool (decide (un = 0)) ∧ L = [Blk b0 C 155]) := by
  refine Does.enter 13 Try.func112 rfl rfl rfl fun W F => ?_
  show WPc _ _ _ _ _ [(0, .pointer (some ⟨b0, off, none⟩))] (Blk b0 C 155 :: F)
  refine WPc.seq ?_
  refine WPc.region ?_
  refine WP.val rfl rfl rfl (Val.assign rfl rfl) ?_
  refine WP.nil ?_
  refine Out.next ?_
  refine WPc.seq ?_
  refine WPc.region ?_
  refine WP.val rfl rfl rfl (Val.move rfl rfl) ?_
  refine WP.val rfl rfl rfl (Val.nilP rfl Ty.ip149 rfl rfl) ?_
  refine WP.val rfl rfl rfl (Val.move rfl rfl) ?_
  refine WP.valG rfl rfl rfl rfl rfl rfl rfl (Val.move rfl rfl) ?_
  refine WP.valG rfl rfl rfl rfl rfl rfl rfl (Val.nilCheck rfl rfl) ?_
  refine WP.valG rfl rfl rfl rfl rfl rfl rfl (Val.fieldAddr (j := off + 3) rfl Ty.fo155_2 rfl rfl) ?_
  refine WP.valG rfl rfl rfl rfl rfl rfl rfl (Val.load (v := .slice ua un uc) rfl Ty.sc132 rfl (fun w h => ((h.at 0 rfl).cell _).trans hC)) ?_
  refine WP.valG rfl rfl rfl rfl rfl rfl rfl (Val.len rfl Ty.sl132 rfl) ?_
  refine WP.valG rfl rfl rfl rfl rfl rfl rfl (Val.eql rfl rfl rfl) ?_
  refine WP.val rfl rfl rfl (Val.pickF rfl rfl rfl) ?_
  refine WP.val rfl rfl rfl (Val.assign rfl rfl) ?_
  refine WP.nil ?_
  refine Out.next ?_
  refine WPc.ret ?_
  exact Out.ret1 (L' := _) Try.results112 rfl ⟨congrArg Value.bool (decide_eq_decide.2 (by omega)), rfl⟩ (fun _ h => h)

end Go.Proofs.Ythicijpjpijdjaa.Le

namespace Go.Proofs.Ythicijpjpijdjaa.Lf
open Go.RowKit Go.Proofs.Ythicijpjpijdjaa Go.Proofs.Ythicijpjpijdjaa.Sl Go.Proofs.Ythicijpjpijdjaa.KyP Go.Proofs.Ythicijpjpijdjaa.Ka Go.Proofs.Ythicijpjpijdjaa.Kb Go.Proofs.Ythicijpjpijdjaa.Kc Go.Proofs.Ythicijpjpijdjaa.Kd Go.Proofs.Ythicijpjpijdjaa.Ke Go.Proofs.Ythicijpjpijdjaa.Kf Go.Proofs.Ythicijpjpijdjaa.Kg Go.Proofs.Ythicijpjpijdjaa.Kh Go.Proofs.Ythicijpjpijdjaa.Ki Go.Proofs.Ythicijpjpijdjaa.Kj Go.Proofs.Ythicijpjpijdjaa.Kk Go.Proofs.Ythicijpjpijdjaa.Kl Go.Proofs.Ythicijpjpijdjaa.Km Go.Proofs.Ythicijpjpijdjaa.Kn Go.Proofs.Ythicijpjpijdjaa.Ko Go.Proofs.Ythicijpjpijdjaa.Kp Go.Proofs.Ythicijpjpijdjaa.Kq Go.Proofs.Ythicijpjpijdjaa.Kr Go.Proofs.Ythicijpjpijdjaa.Ks Go.Proofs.Ythicijpjpijdjaa.Kt Go.Proofs.Ythicijpjpijdjaa.Ku Go.Proofs.Ythicijpjpijdjaa.Kv Go.Proofs.Ythicijpjpijdjaa.Kw Go.Proofs.Ythicijpjpijdjaa.Kx Go.Proofs.Ythicijpjpijdjaa.Ky Go.Proofs.Ythicijpjpijdjaa.Kz Go.Proofs.Ythicijpjpijdjaa.La Go.Proofs.Ythicijpjpijdjaa.Lb Go.Proofs.Ythicijpjpijdjaa.Lc Go.Proofs.Ythicijpjpijdjaa.Ld Go.Proofs.Ythicijpjpijdjaa.Le
set_option linter.unusedVariables false
set_option linter.unusedSimpArgs false
set_option linter.unusedSectionVars false


/-- an index is compacted -/
def kcomp (s : KI) (at_ : Int) : KI := ⟨s.md, match s.gs.drop (gx s.gs at_ (s.gs.length - 1) 0) with
  | g :: t => ⟨g.v, g.c, g.revs.drop (wk g.revs at_ g.revs.length - 1)⟩ :: t
  | [] => []⟩
/-- the revision that a compaction keeps -/
def kav (s : KI) (at_ : Int) : Option Rv := match s.gs[gx s.gs at_ (s.gs.length - 1) 0]? with
  | some g => wkr g.revs at_
  | none => none
theorem kcomp_of {s : KI} {at_ : Int} {P T : List Gn} {g : Gn} (h : P ++ g :: T = s.gs) (hi : gx s.gs at_ (s.gs.length - 1) 0 = P.length) : kcomp s at_ = ⟨s.md, ⟨g.v, g.c, g.revs.drop (wk g.revs at_ g.revs.length - 1)⟩ :: T⟩ := by
  unfold kcomp
  rw [hi, ← h, List.drop_left]
theorem kav_of {s : KI} {at_ : Int} {P T : List Gn} {g : Gn} (h : P ++ g :: T = s.gs) (hi : gx s.gs at_ (s.gs.length - 1) 0 = P.length) : kav s at_ = wkr g.revs at_ := by
  unfold kav
  rw [hi, ← h, List.getElem?_append_right (Nat.le_refl _), Nat.sub_self]
  rfl
structure KAt where
  gi : List GV
  gt : List GV
  g : Gn
  u : Value
  gb : Nat
  gc : Nat
  pg : List Value
  sp : List Value
theorem split3 {α : Type} {l : List α} {i : Nat} (h : i < l.length) : ∃ a p c, l = a ++ p :: c ∧ a.length = i :=
  ⟨l.take i, l[i], l.drop (i + 1), by rw [← List.drop_eq_getElem_cons h, List.take_append_drop], by rw [List.length_take]; omega⟩
theorem kis_at {W w : World} {b : Nat} {ka : Option Addr} {kn kc : Nat} {s : KI} {L : List HProp} {i : Nat} (hi : i < s.gs.length) (h : Sat W (KIs b ka kn kc s :: L) w) : ∃ q : KAt, Sat W (Pure (q.gi.length = i ∧ q.gi.map (·.1) ++ q.g :: q.gt.map (·.1) = s.gs ∧ q.gi.length + 1 + q.gt.length ≤ q.gc ∧ q.sp.length = (q.gc - (q.gi.length + 1 + q.gt.length)) * 4 ∧ q.gc ≤ maxLen) :: Blk b (kcells ka kn kc s.md (.slice (some ⟨q.gb, q.pg.length, none⟩) (q.gi.length + 1 + q.gt.length) q.gc)) 153 :: Blk q.gb (q.pg ++ (flatOf GV.cells q.gi ++ GV.cells (q.g, q.u)) ++ (flatOf GV.cells q.gt ++ q.sp)) 155 :: OwnO 81 2 q.u q.g.revs.length (flatOf Rv.cells q.g.revs) :: Kds GVO q.gt :: L) w := by
  obtain ⟨⟨vg, gl⟩, h⟩ := kis_own h
  have hg := h.pure
  have h1 := h.drop
  dsimp only at hg h1
  obtain ⟨gi, ⟨g, u⟩, gt, rfl, hgi⟩ := split3 (l := gl) (i := i) (by rw [← hg, List.length_map] at hi; exact hi)
  have hn : (gi ++ (g, u) :: gt).length = gi.length + 1 + gt.length := by simp; omega
  rw [hn] at h1
  have h2 : Sat W (OwnO 155 4 vg (gi.length + 1 + gt.length) (flatOf GV.cells (gi ++ (g, u) :: gt)) :: Blk b (kcells ka kn kc s.md vg) 153 :: Kds GVO (gi ++ (g, u) :: gt) :: L) w := h1.perm (List.Perm.swap _ _ _)
  rcases h2.ownO with ⟨-, h0, -⟩ | ⟨gb, gc, pg, sp, rfl, k1, k2, k3, k4, k5⟩
  · omega
  · have e : pg ++ flatOf GV.cells (gi ++ (g, u) :: gt) ++ sp = pg ++ (flatOf GV.cells gi ++ GV.cells (g, u)) ++ (flatOf GV.cells gt ++ sp) := by
      rw [flatOf_append]; simp [flatOf]
    rw [e] at k5
    refine ⟨⟨gi, gt, g, u, gb, gc, pg, sp⟩, Sat.pure_mk ⟨hgi, by rw [← hg]; simp, k1, k3, k4⟩ ?_⟩
    have h3 : Sat W (Kds GVO (gi ++ (g, u) :: gt) :: Blk b (kcells ka kn kc s.md (.slice (some ⟨gb, pg.length, none⟩) (gi.length + 1 + gt.length) gc)) 153 :: Blk gb (pg ++ (flatOf GV.cells gi ++ GV.cells (g, u)) ++ (flatOf GV.cells gt ++ sp)) 155 :: L) w := k5.perm ((List.Perm.swap _ _ _).trans ((List.Perm.cons _ (List.Perm.swap _ _ _)).trans (List.Perm.swap _ _ _)))
    have h4 := h3.kApp.drop.kCons
    exact h4.perm (by
      refine List.Perm.trans (List.Perm.cons _ (List.Perm.swap _ _ _)) ?_
      refine List.Perm.trans (List.Perm.swap _ _ _) (List.Perm.cons _ ?_)
      refine List.Perm.trans (List.Perm.cons _ (List.Perm.swap _ _ _)) ?_
      exact List.Perm.swap _ _ _)
theorem kis_at_mk {W w : World} {b : Nat} {ka : Option Addr} {kn kc : Nat} {md : Rv} {L : List HProp} {gi gt : List GV} {g : Gn} {u : Value} {gb gc : Nat} {pg sp : List Value} (hc : gi.length + 1 + gt.length ≤ gc) (hsp : sp.length = (gc - (gi.length + 1 + gt.length)) * 4) (hm : gc ≤ maxLen)
    (h : Sat W (Blk b (kcells ka kn kc md (.slice (some ⟨gb, pg.length + gi.length * 4, none⟩) ((gi.length + 1 + gt.length) - gi.length) (gc - gi.length))) 153 :: Blk gb (pg ++ (flatOf GV.cells gi ++ GV.cells (g, u)) ++ (flatOf GV.cells gt ++ sp)) 155 :: OwnO 81 2 u g.revs.length (flatOf Rv.cells g.revs) :: Kds GVO gt :: L) w) : Sat W (KIs b ka kn kc ⟨md, g :: gt.map (·.1)⟩ :: L) w := by
  have hn : (gi.length + 1 + gt.length) - gi.length = ((g, u) :: gt).length := by simp; omega
  rw [hn] at h
  have e : pg ++ (flatOf GV.cells gi ++ GV.cells (g, u)) ++ (flatOf GV.cells gt ++ sp) = (pg ++ flatOf GV.cells gi) ++ flatOf GV.cells ((g, u) :: gt) ++ sp := by
    simp [flatOf]
  rw [e] at h
  have h1 := h.perm (List.Perm.swap _ _ _)
  have hl : ((g, u) :: gt).length = 1 + gt.length := by simp; omega
  have h2 : Sat W (OwnO 155 4 (.slice (some ⟨gb, pg.length + gi.length * 4, none⟩) ((g, u) :: gt).length (gc - gi.length)) ((g, u) :: gt).length (flatOf GV.cells ((g, u) :: gt)) :: _) w := Sat.ownOMk h1 (by omega) (flatOf_length GV.len _) (by rw [hsp, hl]; congr 1; omega) (by omega) (by rw [List.length_append, flatOf_length GV.len])
  refine kis_mk (s := ⟨md, g :: gt.map (·.1)⟩) (vg := .slice (some ⟨gb, pg.length + gi.length * 4, none⟩) ((g, u) :: gt).length (gc - gi.length)) (gl := (g, u) :: gt) rfl ?_
  have h3 : Sat W (GVO (g, u) :: Kds GVO gt :: OwnO 155 4 (.slice (some ⟨gb, pg.length + gi.length * 4, none⟩) ((g, u) :: gt).length (gc - gi.length)) ((g, u) :: gt).length (flatOf GV.cells ((g, u) :: gt)) :: Blk b (kcells ka kn kc md (.slice (some ⟨gb, pg.length + gi.length * 4, none⟩) ((g, u) :: gt).length (gc - gi.length))) 153 :: L) w := h2.perm (by
    refine List.Perm.trans (List.Perm.cons _ (List.Perm.swap _ _ _)) ?_
    refine List.Perm.trans (List.Perm.swap _ _ _) (List.Perm.cons _ ?_)
    refine List.Perm.trans (List.Perm.cons _ (List.Perm.swap _ _ _)) ?_
    exact List.Perm.swap _ _ _)
  have h4 := h3.kConsMk
  exact h4.perm ((List.Perm.cons _ (List.Perm.swap _ _ _)).trans ((List.Perm.swap _ _ _).trans (List.Perm.cons _ (List.Perm.swap _ _ _))))
set_option maxRecDepth 100000 in
set_option maxHeartbeats 2000000 in
theorem compact_spec (b : Nat) (ka : Option Addr) (kn kc : Nat) (s : KI) (hsm : Small s.gs) (hemp : emp s.gs = false) (hgpos : 0 < s.gs.length) (hfull : Full s.gs) (at_ : Int) (mb : Nat) : Does Try.prog 103 [.pointer (some ⟨b, 0, none⟩), .pointer none, .int .i64 (at_), .map (some mb)] [KIs b ka kn kc s, MO mb none] (fun v L => v = .tuple #[] ∧ L = [KIs b ka kn kc (kcomp s at_), MO mb (kav s at_)]) := by
  refine Does.enter 50 Try.func103 rfl rfl rfl fun W F => ?_
  show WPc _ _ _ _ _ [(0, .pointer (some ⟨b, 0, none⟩)), (1, .pointer none), (2, .int .i64 (at_)), (3, .map (some mb))] (KIs b ka kn kc s :: MO mb none :: F)
  refine WPc.seq ?_
  refine WPc.seq ?_
  refine WPc.open (fun w h => kis_rd h) ?_
  rintro ⟨vg, gl, E⟩
  refine WPc.pure (fun hkis => ?_)
  obtain ⟨hgl, hG, back⟩ := hkis
  dsimp only at hgl hG back
  have hsg : Small (gl.map (·.1)) := by rw [hgl]; exact hsm
  show WPc _ _ _ _ _ _ (Blk b [.slice ka kn kc, .int .i64 (s.md.m), .int .i64 (s.md.s), vg] 153 :: E :: MO mb none :: F)
  refine WPc.region ?_
  refine WP.val rfl rfl rfl (Val.move rfl rfl) ?_
  refine WP.perm pl1 ?_
  refine WP.perm pl1 ?_
  refine WP.eff rfl rfl rfl (Eff.call rfl rfl Try.call105 (kempty_spec E b ka kn kc s.md gl hsg hG.inn vg hG.rd)) ?_
  rintro _ _ ⟨_, ⟨rfl, rfl⟩, rfl⟩
  show WP _ _ _ _ _ _ _ (Blk b [.slice ka kn kc, .int .i64 (s.md.m), .int .i64 (s.md.s), vg] 153 :: E :: MO mb none :: F)
  refine WP.nil ?_
  refine Out.next ?_
  refine WPc.cond rfl (fun h1 => ?_) (fun h1 => ?_)
  · skip
    have h1 : ((emp (gl.map (·.1)))) = true := h1
    exfalso; rw [hgl, hemp] at h1; cases h1
  · skip
    have h1 : ((emp (gl.map (·.1)))) = false := h1
    refine WPc.skip ?_
    refine Out.next ?_
    refine WPc.seq ?_
    have hgp : 0 < gl.length := by rw [← List.length_map (f := Prod.fst)]; rw [hgl]; exact hgpos
    obtain ⟨b0, o0, c0, rfl, hr⟩ := Rd.row hG.rd hgp
    show WPc _ _ _ _ _ _ (Blk b [.slice ka kn kc, .int .i64 (s.md.m), .int .i64 (s.md.s), .slice (some ⟨b0, o0, none⟩) gl.length c0] 153 :: E :: MO mb none :: F)
    refine WPc.region ?_
    refine WP.val rfl rfl rfl (Val.move rfl rfl) ?_
    refine WP.val rfl rfl rfl (Val.move rfl rfl) ?_
    refine WP.val rfl rfl rfl (Val.move rfl rfl) ?_
    refine WP.perm pl2 ?_
    refine WP.perm pl2 ?_
    refine WP.perm pl2 ?_
    refine WP.eff rfl rfl rfl (Eff.call rfl rfl Try.call117 (docompact_spec E b ka kn kc s.md at_ mb gl hsg hG.inn hgp (by rw [hgl]; exact hfull) b0 o0 c0 hr)) ?_
    rintro _ _ ⟨_, ⟨i, g, hi, hgj, hgx, rfl, rfl⟩, rfl⟩
    show WP _ _ _ _ _ _ _ (Blk b [.slice ka kn kc, .int .i64 (s.md.m), .int .i64 (s.md.s), .slice (some ⟨b0, o0, none⟩) gl.length c0] 153 :: E :: MO mb (wkr g.revs at_) :: F)
    refine WP.val rfl rfl rfl (Val.move rfl rfl) ?_
    refine WP.val rfl rfl rfl (Val.extract rfl rfl rfl) ?_
    refine WP.val rfl rfl rfl (Val.extract rfl rfl rfl) ?_
    refine WP.val rfl rfl rfl (Val.assign rfl rfl) ?_
    refine WP.val rfl rfl rfl (Val.assign rfl rfl) ?_
    refine WP.nil ?_
    refine Out.next ?_
    refine WPc.seq ?_
    rw [hgl] at hgj
    have hgx2 : gx s.gs at_ (s.gs.length - 1) 0 = i := by rw [← hgl, List.length_map]; exact hgx
    have hi2 : i < s.gs.length := (List.getElem?_eq_some_iff.1 hgj).1
    clear hi hgx
    refine WPc.perm pl1 ?_
    refine WPc.perm pl1 ?_
    refine WPc.conv (fun w h => back w _ h) ?_
    show WPc _ _ _ _ _ _ (KIs b ka kn kc s :: MO mb (wkr g.revs at_) :: F)
    refine WPc.open (fun w h => kis_at (i := i) hi2 h) ?_
    rintro ⟨gi, gt, g1, u, gb, gc, pg, sp⟩
    refine WPc.pure (fun hat => ?_)
    dsimp only at hat
    obtain ⟨rfl, hgs, hgc, hsp, hgm⟩ := hat
    obtain rfl : g1 = g := by rw [← hgs, List.getElem?_append_right (by rw [List.length_map]; exact Nat.le_refl _), List.length_map, Nat.sub_self] at hgj; exact Option.some.inj hgj
    show WPc _ _ _ _ _ _ (Blk b [.slice ka kn kc, .int .i64 (s.md.m), .int .i64 (s.md.s), .slice (some ⟨gb, pg.length, none⟩) ((gi.length + 1 + gt.length)) gc] 153 :: Blk gb (pg ++ (flatOf GV.cells gi ++ GV.cells (g1, u)) ++ (flatOf GV.cells gt ++ sp)) 155 :: OwnO 81 2 u g1.revs.length (flatOf Rv.cells g1.revs) :: Kds GVO gt :: MO mb (wkr g1.revs at_) :: F)
    skip
    show WPc _ _ _ _ _ _ (Blk b [.slice ka kn kc, .int .i64 (s.md.m), .int .i64 (s.md.s), .slice (some ⟨gb, pg.length, none⟩) ((gi.length + 1 + gt.length)) gc] 153 :: Blk gb (pg ++ (flatOf GV.cells gi ++ GV.cells (g1, u)) ++ (flatOf GV.cells gt ++ sp)) 155 :: OwnO 81 2 u g1.revs.length (flatOf Rv.cells g1.revs) :: Kds GVO gt :: MO mb (wkr g1.revs at_) :: F)
    refine WPc.region ?_
    refine WP.val rfl rfl rfl (Val.move rfl rfl) ?_
    refine WP.val rfl rfl rfl (Val.nilCheck rfl rfl) ?_
    refine WP.val rfl rfl rfl (Val.fieldAddr (j := 3) rfl Ty.fo153_2 rfl rfl) ?_
    refine WP.val rfl rfl rfl (Val.load rfl Ty.sc151 rfl (fun w h => h.cell 0 rfl rfl)) ?_
    refine WP.val rfl rfl rfl (Val.move rfl rfl) ?_
    refine WP.val rfl rfl rfl (Val.indexAddr (j := gi.length) (q := pg.length + gi.length * 4) rfl Ty.sl151 rfl rfl (by omega) (by omega) (by omega)) ?_
    refine WP.val rfl rfl rfl (Val.assign rfl rfl) ?_
    refine WP.nil ?_
    refine Out.next ?_
    refine WPc.seq ?_
    refine WPc.seq ?_
    rcases Nat.eq_zero_or_pos g1.revs.length with hz | hp
    · skip
      refine WPc.perm pl2 ?_
      refine WPc.fact (fun w h => ownO_slice h) (fun hsl1 => ?_)
      obtain ⟨a1, k1, rfl⟩ := hsl1
      show WPc _ _ _ _ _ _ (OwnO 81 2 (.slice a1 g1.revs.length k1) g1.revs.length (flatOf Rv.cells g1.revs) :: Blk b [.slice ka kn kc, .int .i64 (s.md.m), .int .i64 (s.md.s), .slice (some ⟨gb, pg.length, none⟩) ((gi.length + 1 + gt.length)) gc] 153 :: Blk gb (pg ++ (flatOf GV.cells gi ++ GV.cells (g1, Value.slice a1 g1.revs.length k1)) ++ (flatOf GV.cells gt ++ sp)) 155 :: Kds GVO gt :: MO mb (wkr g1.revs at_) :: F)
      have hw0 := wk_le g1.revs at_ g1.revs.length
      refine WPc.region ?_
      refine WP.val rfl rfl rfl (Val.move rfl rfl) ?_
      refine WP.perm pl2 ?_
      refine WP.eff rfl rfl rfl (Eff.call rfl rfl Try.call112 (gempty_own gb (pg.length + gi.length * 4) _ a1 g1.revs.length k1 (kat _ gi _ _ 3 rfl (by omega)))) ?_
      rintro _ _ ⟨_, ⟨rfl, rfl⟩, rfl⟩
      show WP _ _ _ _ _ _ _ (Blk gb (pg ++ (flatOf GV.cells gi ++ GV.cells (g1, Value.slice a1 g1.revs.length k1)) ++ (flatOf GV.cells gt ++ sp)) 155 :: OwnO 81 2 (.slice a1 g1.revs.length k1) g1.revs.length (flatOf Rv.cells g1.revs) :: Blk b [.slice ka kn kc, .int .i64 (s.md.m), .int .i64 (s.md.s), .slice (some ⟨gb, pg.length, none⟩) ((gi.length + 1 + gt.length)) gc] 153 :: Kds GVO gt :: MO mb (wkr g1.revs at_) :: F)
      refine WP.val rfl rfl rfl (Val.notP rfl rfl) ?_
      refine WP.nil ?_
      refine Out.next ?_
      refine WPc.ifP rfl (fun h2 => ?_) (fun h2 => ?_)
      · skip
        have h2 : (¬ (g1.revs.length = 0)) := h2
        exfalso; omega
      · skip
        have h2 : ¬ (¬ (g1.revs.length = 0)) := h2
        refine WPc.skip ?_
        refine Out.next ?_
        refine WPc.region ?_
        refine WP.val rfl rfl rfl (Val.move rfl rfl) ?_
        refine WP.val rfl rfl rfl (Val.move rfl rfl) ?_
        refine WP.val rfl rfl rfl (Val.nilCheck rfl rfl) ?_
        refine WP.val rfl rfl rfl (Val.fieldAddr (j := 3) rfl Ty.fo153_2 rfl rfl) ?_
        refine WP.val rfl rfl rfl (Val.load rfl Ty.sc151 rfl (fun w h => h.cell 2 rfl rfl)) ?_
        refine WP.val rfl rfl rfl (Val.move rfl rfl) ?_
        refine WP.val rfl rfl rfl (Val.slice (lo := gi.length) (hi := (gi.length + 1 + gt.length)) (j := pg.length + gi.length * 4) (vlo := some (.i64, ((gi.length : Nat) : Int))) (vhi := none) rfl Ty.sl151 rfl rfl rfl (by simp [bnd]; try omega) (by simp [bnd]; try omega) (by omega) (by omega) (by omega) (by rw [if_neg (by omega)]; all_goals omega)) ?_
        refine WP.val rfl rfl rfl (Val.nilCheck rfl rfl) ?_
        refine WP.val rfl rfl rfl (Val.fieldAddr (j := 3) rfl Ty.fo153_2 rfl rfl) ?_
        refine WP.perm pl2 ?_
        refine WP.eff0 rfl rfl (Eff.store rfl Ty.sc151 rfl rfl rfl (by simp) st3) ?_
        rintro _ _ rfl
        refine WP.nil ?_
        exact Out.end0 (L' := _) Try.results103 ⟨rfl, rfl⟩ (fun w h => by rw [kcomp_of hgs (by rw [List.length_map]; exact hgx2), kav_of hgs (by rw [List.length_map]; exact hgx2)]; rw [show wk g1.revs at_ g1.revs.length - 1 = 0 from by omega, List.drop_zero]; exact kis_at_mk (u := .slice a1 g1.revs.length k1) (pg := pg) (gb := gb) hgc hsp hgm h)
    · skip
      refine WPc.perm pl2 ?_
      refine WPc.open (fun w h => h.ownOPos hp) ?_
      rintro ⟨g2, cg2, pg2, spg2⟩
      refine WPc.pure (fun hvg2 => ?_)
      obtain ⟨rfl, hng2, hlg2, hsg2, hcg2⟩ := hvg2
      dsimp only at hng2 hlg2 hsg2 hcg2
      show WPc _ _ _ _ _ _ (Blk g2 (pg2 ++ (flatOf Rv.cells g1.revs) ++ spg2) 81 :: Blk b [.slice ka kn kc, .int .i64 (s.md.m), .int .i64 (s.md.s), .slice (some ⟨gb, pg.length, none⟩) ((gi.length + 1 + gt.length)) gc] 153 :: Blk gb (pg ++ (flatOf GV.cells gi ++ GV.cells (g1, .slice (some ⟨g2, pg2.length, none⟩) g1.revs.length cg2)) ++ (flatOf GV.cells gt ++ sp)) 155 :: Kds GVO gt :: MO mb (wkr g1.revs at_) :: F)
      show WPc _ _ _ _ _ _ (Blk g2 (pg2 ++ (flatOf Rv.cells g1.revs) ++ spg2) 81 :: Blk b [.slice ka kn kc, .int .i64 (s.md.m), .int .i64 (s.md.s), .slice (some ⟨gb, pg.length, none⟩) ((gi.length + 1 + gt.length)) gc] 153 :: Blk gb (pg ++ (flatOf GV.cells gi ++ GV.cells (g1, .slice (some ⟨g2, pg2.length, none⟩) g1.revs.length cg2)) ++ (flatOf GV.cells gt ++ sp)) 155 :: Kds GVO gt :: MO mb (wkr g1.revs at_) :: F)
      refine WPc.region ?_
      refine WP.val rfl rfl rfl (Val.move rfl rfl) ?_
      refine WP.perm pl2 ?_
      refine WP.eff rfl rfl rfl (Eff.call rfl rfl Try.call112 (gempty_own gb (pg.length + gi.length * 4) _ (some ⟨g2, pg2.length, none⟩) g1.revs.length cg2 (kat _ gi _ _ 3 rfl (by omega)))) ?_
      rintro _ _ ⟨_, ⟨rfl, rfl⟩, rfl⟩
      show WP _ _ _ _ _ _ _ (Blk gb (pg ++ (flatOf GV.cells gi ++ GV.cells (g1, .slice (some ⟨g2, pg2.length, none⟩) g1.revs.length cg2)) ++ (flatOf GV.cells gt ++ sp)) 155 :: Blk g2 (pg2 ++ (flatOf Rv.cells g1.revs) ++ spg2) 81 :: Blk b [.slice ka kn kc, .int .i64 (s.md.m), .int .i64 (s.md.s), .slice (some ⟨gb, pg.length, none⟩) ((gi.length + 1 + gt.length)) gc] 153 :: Kds GVO gt :: MO mb (wkr g1.revs at_) :: F)
      refine WP.val rfl rfl rfl (Val.notP rfl rfl) ?_
      refine WP.nil ?_
      refine Out.next ?_
      refine WPc.ifP rfl (fun h3 => ?_) (fun h3 => ?_)
      · skip
        have h3 : (¬ (g1.revs.length = 0)) := h3
        refine WPc.seq ?_
        refine WPc.region ?_
        refine WP.val rfl rfl rfl (Val.move rfl rfl) ?_
        refine WP.val rfl rfl rfl (Val.neq rfl rfl rfl) ?_
        refine WP.nil ?_
        refine Out.next ?_
        refine WPc.ifP rfl (fun h4 => ?_) (fun h4 => ?_)
        · skip
          have h4 : (((wk g1.revs at_ g1.revs.length : Int) - 1) ≠ (-1 : Int)) := h4
          have hwl := wk_le g1.revs at_ g1.revs.length
          obtain ⟨n, hn⟩ : ∃ n, wk g1.revs at_ g1.revs.length = n + 1 := ⟨wk g1.revs at_ g1.revs.length - 1, by omega⟩
          refine WPc.know 9 (.int .i64 ((n : Nat) : Int)) rfl (congrArg (Value.int .i64) (by omega)) ?_
          refine WPc.region ?_
          refine WP.val rfl rfl rfl (Val.move rfl rfl) ?_
          refine WP.val rfl rfl rfl (Val.move rfl rfl) ?_
          refine WP.val rfl rfl rfl (Val.nilCheck rfl rfl) ?_
          refine WP.val rfl rfl rfl (Val.fieldAddr (j := pg.length + gi.length * 4 + 3) rfl Ty.fo155_2 rfl rfl) ?_
          refine WP.val rfl rfl rfl (Val.load (v := .slice (some ⟨g2, pg2.length, none⟩) g1.revs.length cg2) rfl Ty.sc132 rfl (fun w h => ((h.at 0 rfl).cell _).trans (kat _ gi _ _ 3 rfl (by omega)))) ?_
          refine WP.val rfl rfl rfl (Val.move rfl rfl) ?_
          refine WP.val rfl rfl rfl (Val.slice (lo := n) (hi := g1.revs.length) (j := pg2.length + n * 2) (vlo := some (.i64, ((n : Nat) : Int))) (vhi := none) rfl Ty.sl132 rfl rfl rfl (by simp [bnd]; try omega) (by simp [bnd]; try omega) (by omega) (by omega) (by omega) (by rw [if_neg (by omega)]; all_goals omega)) ?_
          refine WP.val rfl rfl rfl (Val.nilCheck rfl rfl) ?_
          refine WP.val rfl rfl rfl (Val.fieldAddr (j := pg.length + gi.length * 4 + 3) rfl Ty.fo155_2 rfl rfl) ?_
          refine WP.eff0 rfl rfl (Eff.store (C' := pg ++ (flatOf GV.cells gi ++ GV.cells (g1, .slice (some ⟨g2, pg2.length + n * 2, none⟩) (g1.revs.length - n) (cg2 - n))) ++ (flatOf GV.cells gt ++ sp)) rfl Ty.sc132 rfl rfl rfl (klt _ gi _ _ 4 rfl (by omega)) (kset _ gi _ _ 3 (.slice (some ⟨g2, pg2.length + n * 2, none⟩) (g1.revs.length - n) (cg2 - n)) rfl (by omega))) ?_
          rintro _ _ rfl
          refine WP.nil ?_
          refine Out.next ?_
          refine WPc.region ?_
          refine WP.val rfl rfl rfl (Val.move rfl rfl) ?_
          refine WP.val rfl rfl rfl (Val.move rfl rfl) ?_
          refine WP.val rfl rfl rfl (Val.nilCheck rfl rfl) ?_
          refine WP.val rfl rfl rfl (Val.fieldAddr (j := 3) rfl Ty.fo153_2 rfl rfl) ?_
          refine WP.val rfl rfl rfl (Val.load rfl Ty.sc151 rfl (fun w h => h.cell 2 rfl rfl)) ?_
          refine WP.val rfl rfl rfl (Val.move rfl rfl) ?_
          refine WP.val rfl rfl rfl (Val.slice (lo := gi.length) (hi := (gi.length + 1 + gt.length)) (j := pg.length + gi.length * 4) (vlo := some (.i64, ((gi.length : Nat) : Int))) (vhi := none) rfl Ty.sl151 rfl rfl rfl (by simp [bnd]; try omega) (by simp [bnd]; try omega) (by omega) (by omega) (by omega) (by rw [if_neg (by omega)]; all_goals omega)) ?_
          refine WP.val rfl rfl rfl (Val.nilCheck rfl rfl) ?_
          refine WP.val rfl rfl rfl (Val.fieldAddr (j := 3) rfl Ty.fo153_2 rfl rfl) ?_
          refine WP.perm pl2 ?_
          refine WP.eff0 rfl rfl (Eff.store rfl Ty.sc151 rfl rfl rfl (by simp) st3) ?_
          rintro _ _ rfl
          refine WP.nil ?_
          refine Out.perm pl2 ?_
          refine Out.conv (fun w h => Sat.ownOMk (e := 81) (k := 2) (b := g2) (m := (g1.revs.drop n).length) (cap := cg2 - n) (pre := pg2 ++ flatOf Rv.cells (g1.revs.take n)) (xs := flatOf Rv.cells (g1.revs.drop n)) (sp := spg2) (off := pg2.length + n * 2) (by rw [List.append_assoc pg2, ← flatOf_append, List.take_append_drop]; exact h) (by rw [List.length_drop]; omega) (flatOf_length Rv.len _) (by rw [hsg2, List.length_drop]; congr 1; omega) (by omega) (by rw [List.length_append, flatOf_length Rv.len, List.length_take]; omega)) ?_
          refine Out.perm pl4 ?_
          refine Out.perm pl4 ?_
          refine Out.perm pl2 ?_
          refine Out.perm pl4 ?_
          refine Out.perm pl4 ?_
          exact Out.end0 (L' := _) Try.results103 ⟨rfl, rfl⟩ (fun w h => by rw [kcomp_of hgs (by rw [List.length_map]; exact hgx2), kav_of hgs (by rw [List.length_map]; exact hgx2)]; rw [show wk g1.revs at_ g1.revs.length - 1 = n from by omega]; refine kis_at_mk (u := .slice (some ⟨g2, pg2.length + n * 2, none⟩) (g1.revs.drop n).length (cg2 - n)) (pg := pg) (gb := gb) hgc hsp hgm ?_; rw [List.length_drop]; rw [List.length_drop] at h; exact h)
        · skip
          have h4 : ¬ (((wk g1.revs at_ g1.revs.length : Int) - 1) ≠ (-1 : Int)) := h4
          refine WPc.skip ?_
          refine Out.next ?_
          refine WPc.region ?_
          refine WP.val rfl rfl rfl (Val.move rfl rfl) ?_
          refine WP.val rfl rfl rfl (Val.move rfl rfl) ?_
          refine WP.val rfl rfl rfl (Val.nilCheck rfl rfl) ?_
          refine WP.val rfl rfl rfl (Val.fieldAddr (j := 3) rfl Ty.fo153_2 rfl rfl) ?_
          refine WP.val rfl rfl rfl (Val.load rfl Ty.sc151 rfl (fun w h => h.cell 2 rfl rfl)) ?_
          refine WP.val rfl rfl rfl (Val.move rfl rfl) ?_
          refine WP.val rfl rfl rfl (Val.slice (lo := gi.length) (hi := (gi.length + 1 + gt.length)) (j := pg.length + gi.length * 4) (vlo := some (.i64, ((gi.length : Nat) : Int))) (vhi := none) rfl Ty.sl151 rfl rfl rfl (by simp [bnd]; try omega) (by simp [bnd]; try omega) (by omega) (by omega) (by omega) (by rw [if_neg (by omega)]; all_goals omega)) ?_
          refine WP.val rfl rfl rfl (Val.nilCheck rfl rfl) ?_
          refine WP.val rfl rfl rfl (Val.fieldAddr (j := 3) rfl Ty.fo153_2 rfl rfl) ?_
          refine WP.perm pl2 ?_
          refine WP.eff0 rfl rfl (Eff.store rfl Ty.sc151 rfl rfl rfl (by simp) st3) ?_
          rintro _ _ rfl
          refine WP.nil ?_
          refine Out.perm pl2 ?_
          refine Out.conv (fun w h => Sat.ownOMk (e := 81) (k := 2) (b := g2) (m := g1.revs.length) (cap := cg2) (pre := pg2) (xs := flatOf Rv.cells g1.revs) (sp := spg2) (by exact h) (by omega) (flatOf_length Rv.len _) hsg2 hcg2 rfl) ?_
          refine Out.perm pl4 ?_
          refine Out.perm pl4 ?_
          refine Out.perm pl2 ?_
          refine Out.perm pl4 ?_
          refine Out.perm pl4 ?_
          exact Out.end0 (L' := _) Try.results103 ⟨rfl, rfl⟩ (fun w h => by rw [kcomp_of hgs (by rw [List.length_map]; exact hgx2), kav_of hgs (by rw [List.length_map]; exact hgx2)]; rw [show wk g1.revs at_ g1.revs.length - 1 = 0 from by omega, List.drop_zero]; exact kis_at_mk (u := .slice (some ⟨g2, pg2.length, none⟩) g1.revs.length cg2) (pg := pg) (gb := gb) hgc hsp hgm h)
      · skip
        have h3 : ¬ (¬ (g1.revs.length = 0)) := h3
        exfalso; omega
set_option maxRecDepth 100000 in
set_option maxHeartbeats 2000000 in
theorem zcompact_spec (b : Nat) (ka : Option Addr) (kn kc : Nat) (s : KI) (hsm : Small s.gs) (hemp : emp s.gs = false) (hgpos : 0 < s.gs.length) (hfull : Full s.gs) (at_ : Int) : Does Try.prog 75 [.agg #[.pointer (some ⟨b, 0, none⟩)], .int .i64 (at_)] [KIs b ka kn kc s] (fun v L => ∃ mb : Nat, v = .map (some mb) ∧ L = [MO mb (kav s at_), KIs b ka kn kc (kcomp s at_)]) := by
  refine Does.enter 13 Try.func75 rfl rfl rfl fun W F => ?_
  show WPc _ _ _ _ _ [(0, .agg #[.pointer (some ⟨b, 0, none⟩)]), (1, .int .i64 (at_))] (KIs b ka kn kc s :: F)
  refine WPc.seq ?_
  refine WPc.region ?_
  refine WP.eff rfl rfl rfl (Eff.box (C := [.pointer (some ⟨b, 0, none⟩)]) rfl rfl rfl) ?_
  rintro _ _ ⟨b1, rfl, rfl⟩
  refine WP.val rfl rfl rfl (Val.assign rfl rfl) ?_
  refine WP.nil ?_
  refine Out.next ?_
  refine WPc.seq ?_
  refine WPc.region ?_
  refine WP.eff rfl rfl rfl (Eff.moMake rfl) ?_
  rintro _ _ ⟨mb, rfl, rfl⟩
  refine WP.val rfl rfl rfl (Val.assign rfl rfl) ?_
  refine WP.nil ?_
  refine Out.next ?_
  refine WPc.seq ?_
  refine WPc.region ?_
  refine WP.val rfl rfl rfl (Val.fieldAddr (j := 0) rfl Ty.fo78_0 rfl rfl) ?_
  refine WP.val rfl rfl rfl (Val.load rfl Ty.sc76 rfl (fun w h => h.cell 1 rfl rfl)) ?_
  refine WP.val rfl rfl rfl (Val.move rfl rfl) ?_
  refine WP.val rfl rfl rfl (Val.move rfl rfl) ?_
  refine WP.perm pl2 ?_
  refine WP.eff rfl rfl rfl (Eff.call rfl rfl Try.call103 (compact_spec b ka kn kc s hsm hemp hgpos hfull at_ mb)) ?_
  rintro _ _ ⟨_, ⟨rfl, rfl⟩, rfl⟩
  show WP _ _ _ _ _ _ _ (KIs b ka kn kc (kcomp s at_) :: MO mb (kav s at_) :: Blk b1 [.pointer (some ⟨b, 0, none⟩)] 78 :: F)
  refine WP.nil ?_
  refine Out.next ?_
  refine WPc.seq ?_
  refine WPc.region ?_
  refine WP.val rfl rfl rfl (Val.move rfl rfl) ?_
  refine WP.val rfl rfl rfl (Val.assign rfl rfl) ?_
  refine WP.nil ?_
  refine Out.next ?_
  refine WPc.ret ?_
  refine Out.perm pl2 ?_
  refine Out.drop ?_
  refine Out.perm pl1 ?_
  exact Out.ret1 (L' := _) Try.results75 rfl ⟨mb, rfl, rfl⟩ (fun _ h => h)

end Go.Proofs.Ythicijpjpijdjaa.Lf

