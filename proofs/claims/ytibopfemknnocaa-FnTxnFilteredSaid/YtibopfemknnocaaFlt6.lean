import Derived.Test.YtibopfemknnocaaFlt5
namespace Go.Proofs.Ytibopfemknnocaa.Flt6
open Go.RowKit Go.Proofs.Ytibopfemknnocaa Go.Proofs.Ytibopfemknnocaa.Sl Go.Proofs.Ytibopfemknnocaa.KvRow Go.Proofs.Ytibopfemknnocaa.Flt Go.Proofs.Ytibopfemknnocaa.Flt2 Go.Proofs.Ytibopfemknnocaa.Flt3 Go.Proofs.Ytibopfemknnocaa.Flt4 Go.Proofs.Ytibopfemknnocaa.Flt5
set_option linter.unusedVariables false


theorem keepl_more {mm xm mc xc : Int} {l : List KV} {i : Nat} {x : KV} (hx : l[i]? = some x) : keepl mm xm mc xc (l.take (i + 1)) = keepl mm xm mc xc (l.take i) ++ if okLo mm mc x && okHi xm xc x then [x] else [] := by
  rw [take_more hx]
  unfold keepl
  rw [List.filter_append, List.filter_cons]
  rfl
theorem keepl_len (mm xm mc xc : Int) (l : List KV) (i : Nat) : (keepl mm xm mc xc (l.take i)).length ≤ l.length := by
  unfold keepl
  have := List.length_filter_le (fun x => okLo mm mc x && okHi xm xc x) (l.take i)
  rw [List.length_take] at this
  omega
set_option maxRecDepth 100000 in
set_option maxHeartbeats 1000000 in
theorem ref_nil (A : HProp) (v0 : List Value) {ca : Option Addr} {cn cc : Nat} {mm xm mc xc : Int} (hv : Fits.IsReq v0 ca cn cc mm xm mc xc)  (a : Option Addr) (c : Nat) : Does Try.prog 17 [.slice a 0 c, .agg (v0).toArray] [A] (fun v L => ∃ u, v = u ∧ L = [Own 34 6 u (keepl mm xm mc xc ([] : List KV)).length (KvRow.flat (keepl mm xm mc xc ([] : List KV))), A]) := by
  have hl : ([] : List KV).length ≤ 1000 := by simp
  refine Does.enter 73 Try.func17 rfl rfl rfl fun W F => ?_
  show WPc _ _ _ _ _ [(0, .slice a 0 c), (1, .agg (v0).toArray)] (A :: F)
  refine WPc.seq ?_
  refine WPc.region ?_
  refine WP.eff rfl rfl rfl (Eff.box (C := v0) rfl rfl rfl) ?_
  rintro _ _ ⟨b1, rfl, rfl⟩
  refine WP.val rfl rfl rfl (Val.assign rfl rfl) ?_
  refine WP.nil ?_
  refine Out.next ?_
  refine WPc.seq ?_
  refine WPc.region ?_
  refine WP.val rfl rfl rfl (Val.assign rfl rfl) ?_
  refine WP.nil ?_
  refine Out.next ?_
  refine WPc.seq ?_
  refine WPc.seq ?_
  refine WPc.region ?_
  refine WP.val rfl rfl rfl (Val.assign rfl rfl) ?_
  refine WP.nil ?_
  refine Out.next ?_
  refine WPc.block ?_
  refine WPc.loop (ι := Nat × Value) (fun ⟨i, v⟩ => i ≤ ([] : List KV).length) (fun ⟨i, v⟩ => [(0, .slice a 0 c), (3, .pointer (some ⟨b1, 0, none⟩)), (5, v), (6, .int .i64 (((i : Nat) : Int)))]) (fun ⟨i, v⟩ => Own 34 6 v ((keepl mm xm mc xc (([] : List KV).take i)).length) (KvRow.flat (keepl mm xm mc xc (([] : List KV).take i))) :: Blk b1 v0 25 :: A :: F) (fun ⟨i, v⟩ => ([] : List KV).length - i) (0, .slice none 0 0) (by first | omega | (dsimp only; omega)) ((Sub.cons rfl (Sub.cons rfl (Sub.cons rfl (Sub.cons rfl Sub.nil))))) (fun w h => h.ownNil) ?_
  rintro ⟨i, v⟩ hi
  show WPc _ _ _ _ _ [(0, .slice a 0 c), (3, .pointer (some ⟨b1, 0, none⟩)), (5, v), (6, .int .i64 (((i : Nat) : Int)))] (Own 34 6 v ((keepl mm xm mc xc (([] : List KV).take i)).length) (KvRow.flat (keepl mm xm mc xc (([] : List KV).take i))) :: Blk b1 v0 25 :: A :: F)
  replace hi : i ≤ ([] : List KV).length := hi
  refine WPc.seq ?_
  refine WPc.seq ?_
  refine WPc.region ?_
  refine WP.val rfl rfl rfl (Val.move rfl rfl) ?_
  refine WP.val rfl rfl rfl (Val.move rfl rfl) ?_
  refine WP.val rfl rfl rfl (Val.len rfl Ty.sl30 rfl) ?_
  refine WP.val rfl rfl rfl (Val.lss rfl rfl rfl) ?_
  refine WP.nil ?_
  refine Out.next ?_
  refine WPc.ifP rfl (fun h1 => ?_) (fun h1 => ?_)
  · skip
    have h1 : (((i : Nat) : Int) < (0 : Int)) := h1
    exfalso; simp at *; omega
  · skip
    have h1 : ¬ (((i : Nat) : Int) < (0 : Int)) := h1
    refine WPc.exit ?_
    refine Out.then_exit ?_
    refine Out.then_exit ?_
    refine Out.block_exit ?_
    refine Out.next ?_
    refine WPc.seq ?_
    refine WPc.region ?_
    refine WP.val rfl rfl rfl (Val.move rfl rfl) ?_
    refine WP.val rfl rfl rfl (Val.assign rfl rfl) ?_
    refine WP.nil ?_
    refine Out.next ?_
    refine WPc.ret ?_
    have e : i = ([] : List KV).length := by simp at *; omega
    subst e
    refine Out.perm pl1 ?_
    refine Out.drop ?_
    exact Out.ret1 (L' := [Own 34 6 v (keepl mm xm mc xc ([] : List KV)).length (KvRow.flat (keepl mm xm mc xc ([] : List KV))), A]) Try.results17 rfl ⟨v, rfl, rfl⟩ (fun w h => by rw [List.take_length] at h; exact h)

set_option maxRecDepth 100000 in
set_option maxHeartbeats 1000000 in
theorem ref_row (A : HProp) (l : List KV) (hl : l.length ≤ 1000) (v0 : List Value) {ca : Option Addr} {cn cc : Nat} {mm xm mc xc : Int} (hv : Fits.IsReq v0 ca cn cc mm xm mc xc)  (b0 o0 c0 : Nat) (hr : ∀ w, Holds A w → ∀ i x, l[i]? = some x → w.rangeAt b0 (o0 + i * 6) x.cells) : Does Try.prog 17 [.slice (some ⟨b0, o0, none⟩) l.length c0, .agg (v0).toArray] [A] (fun v L => ∃ u, v = u ∧ L = [Own 34 6 u (keepl mm xm mc xc l).length (KvRow.flat (keepl mm xm mc xc l)), A]) := by
  refine Does.enter 73 Try.func17 rfl rfl rfl fun W F => ?_
  show WPc _ _ _ _ _ [(0, .slice (some ⟨b0, o0, none⟩) l.length c0), (1, .agg (v0).toArray)] (A :: F)
  refine WPc.seq ?_
  refine WPc.region ?_
  refine WP.eff rfl rfl rfl (Eff.box (C := v0) rfl rfl rfl) ?_
  rintro _ _ ⟨b1, rfl, rfl⟩
  refine WP.val rfl rfl rfl (Val.assign rfl rfl) ?_
  refine WP.nil ?_
  refine Out.next ?_
  refine WPc.seq ?_
  refine WPc.region ?_
  refine WP.val rfl rfl rfl (Val.assign rfl rfl) ?_
  refine WP.nil ?_
  refine Out.next ?_
  refine WPc.seq ?_
  refine WPc.seq ?_
  refine WPc.region ?_
  refine WP.val rfl rfl rfl (Val.assign rfl rfl) ?_
  refine WP.nil ?_
  refine Out.next ?_
  refine WPc.block ?_
  refine WPc.loop (ι := Nat × Value) (fun ⟨i, v⟩ => i ≤ l.length) (fun ⟨i, v⟩ => [(0, .slice (some ⟨b0, o0, none⟩) l.length c0), (3, .pointer (some ⟨b1, 0, none⟩)), (5, v), (6, .int .i64 (((i : Nat) : Int)))]) (fun ⟨i, v⟩ => Own 34 6 v ((keepl mm xm mc xc (l.take i)).length) (KvRow.flat (keepl mm xm mc xc (l.take i))) :: Blk b1 v0 25 :: A :: F) (fun ⟨i, v⟩ => l.length - i) (0, .slice none 0 0) (by first | omega | (dsimp only; omega)) ((Sub.cons rfl (Sub.cons rfl (Sub.cons rfl (Sub.cons rfl Sub.nil))))) (fun w h => h.ownNil) ?_
  rintro ⟨i, v⟩ hi
  show WPc _ _ _ _ _ [(0, .slice (some ⟨b0, o0, none⟩) l.length c0), (3, .pointer (some ⟨b1, 0, none⟩)), (5, v), (6, .int .i64 (((i : Nat) : Int)))] (Own 34 6 v ((keepl mm xm mc xc (l.take i)).length) (KvRow.flat (keepl mm xm mc xc (l.take i))) :: Blk b1 v0 25 :: A :: F)
  replace hi : i ≤ l.length := hi
  refine WPc.seq ?_
  refine WPc.seq ?_
  refine WPc.region ?_
  refine WP.val rfl rfl rfl (Val.move rfl rfl) ?_
  refine WP.val rfl rfl rfl (Val.move rfl rfl) ?_
  refine WP.val rfl rfl rfl (Val.len rfl Ty.sl30 rfl) ?_
  refine WP.val rfl rfl rfl (Val.lss rfl rfl rfl) ?_
  refine WP.nil ?_
  refine Out.next ?_
  refine WPc.ifP rfl (fun h1 => ?_) (fun h1 => ?_)
  · skip
    have h1 : (((i : Nat) : Int) < ((l.length : Nat) : Int)) := h1
    refine WPc.skip ?_
    refine Out.next ?_
    refine WPc.seq ?_
    refine WPc.block ?_
    refine WPc.seq ?_
    have hlt : i < l.length := by omega
    obtain ⟨x, hx⟩ : ∃ x, l[i]? = some x := ⟨_, List.getElem?_eq_getElem hlt⟩
    have hkl := keepl_len mm xm mc xc l i
    refine WPc.region ?_
    refine WP.val rfl rfl rfl (Val.move rfl rfl) ?_
    refine WP.val rfl rfl rfl (Val.move rfl rfl) ?_
    refine WP.val rfl rfl rfl (Val.indexAddr (j := i) (q := o0 + i * 6) rfl Ty.sl30 rfl rfl (by omega) (by omega) (by omega)) ?_
    refine WP.val rfl rfl rfl (Val.loadAgg (cs := x.cells) rfl Ty.ag34 rfl (by rfl) (fun w h => hr w (h.at 2 rfl) i x hx)) ?_
    refine WP.eff rfl rfl rfl (Eff.alloc rfl Ty.z34) ?_
    rintro _ _ ⟨b2, rfl, rfl⟩
    refine WP.eff0 rfl rfl (Eff.storeAgg (cs := [.string x.key, .string x.val, .int .i64 (x.cr), .int .i64 (x.md), .int .i64 (x.ver), .int .i64 (x.ls)]) (C' := [.string x.key, .string x.val, .int .i64 (x.cr), .int .i64 (x.md), .int .i64 (x.ver), .int .i64 (x.ls)]) rfl Ty.ag34 rfl rfl rfl rfl (by simp) rfl) ?_
    rintro _ _ rfl
    refine WP.nil ?_
    refine Out.next ?_
    refine WPc.seq ?_
    refine WPc.region ?_
    refine WP.seg 23 (ι := Unit) (fun _ => True) (fun _ => [(0, .slice (some ⟨b0, o0, none⟩) l.length c0), (3, .pointer (some ⟨b1, 0, none⟩)), (5, v), (6, .int .i64 (((i : Nat) : Int))), (7, .pointer (some ⟨b2, 0, none⟩)), (8, .bool (okLo mm mc x))]) (fun _ => Blk b2 [.string x.key, .string x.val, .int .i64 (x.cr), .int .i64 (x.md), .int .i64 (x.ver), .int .i64 (x.ls)] 34 :: Own 34 6 v ((keepl mm xm mc xc (l.take i)).length) (KvRow.flat (keepl mm xm mc xc (l.take i))) :: Blk b1 v0 25 :: A :: F) ?_ ?_
    · skip
      refine WP.val rfl rfl rfl (Val.fieldAddr (j := 9) rfl Ty.fo25_9 rfl rfl) ?_
      refine WP.val rfl rfl rfl (Val.load (v := .int .i64 (mm)) rfl Ty.sc2 rfl (fun w h => h.cell 2 rfl (IsReq.at hv).1)) ?_
      refine WP.val rfl rfl rfl (Val.eql rfl rfl rfl) ?_
      refine WP.val rfl rfl rfl (Val.move rfl rfl) ?_
      refine WP.split 23 rfl (fun h2 => ?_) (fun h2 => ?_)
      · skip
        have h2 : (mm = (0 : Int)) := h2
        refine WP.skip rfl rfl rfl rfl rfl rfl rfl ?_
        refine WP.skip rfl rfl rfl rfl rfl rfl rfl ?_
        refine WP.skip rfl rfl rfl rfl rfl rfl rfl ?_
        refine WP.skip rfl rfl rfl rfl rfl rfl rfl ?_
        refine WP.skip rfl rfl rfl rfl rfl rfl rfl ?_
        refine WP.val rfl rfl rfl (Val.pickT rfl rfl rfl) ?_
        refine WP.val rfl rfl rfl (Val.move rfl rfl) ?_
        refine WP.valG rfl rfl rfl rfl rfl rfl rfl (Val.fieldAddr (j := 11) rfl Ty.fo25_11 rfl rfl) ?_
        refine WP.valG rfl rfl rfl rfl rfl rfl rfl (Val.load (v := .int .i64 (mc)) rfl Ty.sc2 rfl (fun w h => h.cell 2 rfl (IsReq.at hv).2.2.1)) ?_
        refine WP.valG rfl rfl rfl rfl rfl rfl rfl (Val.eql rfl rfl rfl) ?_
        refine WP.valG rfl rfl rfl rfl rfl rfl rfl (Val.move rfl rfl) ?_
        refine WP.split 34 rfl (fun h3 => ?_) (fun h3 => ?_)
        · skip
          have h3 : (mc = (0 : Int)) := h3
          refine WP.skip rfl rfl rfl rfl rfl rfl rfl ?_
          refine WP.skip rfl rfl rfl rfl rfl rfl rfl ?_
          refine WP.skip rfl rfl rfl rfl rfl rfl rfl ?_
          refine WP.skip rfl rfl rfl rfl rfl rfl rfl ?_
          refine WP.skip rfl rfl rfl rfl rfl rfl rfl ?_
          refine WP.valG rfl rfl rfl rfl rfl rfl rfl (Val.pickT rfl rfl rfl) ?_
          refine WP.val rfl rfl rfl (Val.pickT rfl rfl rfl) ?_
          refine WP.val rfl rfl rfl (Val.assign rfl rfl) ?_
          refine WP.nil ?_
          refine Out.meet () ?_ ?_ ?_
          · exact trivial
          · exact (Sub.cons rfl (Sub.cons rfl (Sub.cons rfl (Sub.cons rfl (Sub.cons rfl (Sub.cons (congrArg (fun b => some (Value.bool b)) (by unfold okLo; rw [Bool.eq_iff_iff]; simp; try omega)) Sub.nil))))))
          · exact (fun _ h => h)
        · skip
          have h3 : ¬ (mc = (0 : Int)) := h3
          refine WP.valG rfl rfl rfl rfl rfl rfl rfl (Val.fieldAddr (j := 2) rfl Ty.fo34_2 rfl rfl) ?_
          refine WP.valG rfl rfl rfl rfl rfl rfl rfl (Val.load rfl Ty.sc2 rfl (fun w h => h.cell 0 rfl rfl)) ?_
          refine WP.valG rfl rfl rfl rfl rfl rfl rfl (Val.fieldAddr (j := 11) rfl Ty.fo25_11 rfl rfl) ?_
          refine WP.valG rfl rfl rfl rfl rfl rfl rfl (Val.load (v := .int .i64 (mc)) rfl Ty.sc2 rfl (fun w h => h.cell 2 rfl (IsReq.at hv).2.2.1)) ?_
          refine WP.valG rfl rfl rfl rfl rfl rfl rfl (Val.geq rfl rfl rfl) ?_
          refine WP.valG rfl rfl rfl rfl rfl rfl rfl (Val.pickF rfl rfl rfl) ?_
          refine WP.val rfl rfl rfl (Val.pickT rfl rfl rfl) ?_
          refine WP.val rfl rfl rfl (Val.assign rfl rfl) ?_
          refine WP.nil ?_
          refine Out.meet () ?_ ?_ ?_
          · exact trivial
          · exact (Sub.cons rfl (Sub.cons rfl (Sub.cons rfl (Sub.cons rfl (Sub.cons rfl (Sub.cons (congrArg (fun b => some (Value.bool b)) (by unfold okLo; rw [Bool.eq_iff_iff]; simp; try omega)) Sub.nil))))))
          · exact (fun _ h => h)
      · skip
        have h2 : ¬ (mm = (0 : Int)) := h2
        refine WP.valG rfl rfl rfl rfl rfl rfl rfl (Val.fieldAddr (j := 3) rfl Ty.fo34_3 rfl rfl) ?_
        refine WP.valG rfl rfl rfl rfl rfl rfl rfl (Val.load rfl Ty.sc2 rfl (fun w h => h.cell 0 rfl rfl)) ?_
        refine WP.valG rfl rfl rfl rfl rfl rfl rfl (Val.fieldAddr (j := 9) rfl Ty.fo25_9 rfl rfl) ?_
        refine WP.valG rfl rfl rfl rfl rfl rfl rfl (Val.load (v := .int .i64 (mm)) rfl Ty.sc2 rfl (fun w h => h.cell 2 rfl (IsReq.at hv).1)) ?_
        refine WP.valG rfl rfl rfl rfl rfl rfl rfl (Val.geq rfl rfl rfl) ?_
        refine WP.val rfl rfl rfl (Val.pickF rfl rfl rfl) ?_
        refine WP.val rfl rfl rfl (Val.move rfl rfl) ?_
        refine WP.split 30 rfl (fun h4 => ?_) (fun h4 => ?_)
        · skip
          have h4 : (mm ≤ x.md) := h4
          refine WP.valG rfl rfl rfl rfl rfl rfl rfl (Val.fieldAddr (j := 11) rfl Ty.fo25_11 rfl rfl) ?_
          refine WP.valG rfl rfl rfl rfl rfl rfl rfl (Val.load (v := .int .i64 (mc)) rfl Ty.sc2 rfl (fun w h => h.cell 2 rfl (IsReq.at hv).2.2.1)) ?_
          refine WP.valG rfl rfl rfl rfl rfl rfl rfl (Val.eql rfl rfl rfl) ?_
          refine WP.valG rfl rfl rfl rfl rfl rfl rfl (Val.move rfl rfl) ?_
          refine WP.split 34 rfl (fun h5 => ?_) (fun h5 => ?_)
          · skip
            have h5 : (mc = (0 : Int)) := h5
            refine WP.skip rfl rfl rfl rfl rfl rfl rfl ?_
            refine WP.skip rfl rfl rfl rfl rfl rfl rfl ?_
            refine WP.skip rfl rfl rfl rfl rfl rfl rfl ?_
            refine WP.skip rfl rfl rfl rfl rfl rfl rfl ?_
            refine WP.skip rfl rfl rfl rfl rfl rfl rfl ?_
            refine WP.valG rfl rfl rfl rfl rfl rfl rfl (Val.pickT rfl rfl rfl) ?_
            refine WP.val rfl rfl rfl (Val.pickT rfl rfl rfl) ?_
            refine WP.val rfl rfl rfl (Val.assign rfl rfl) ?_
            refine WP.nil ?_
            refine Out.meet () ?_ ?_ ?_
            · exact trivial
            · exact (Sub.cons rfl (Sub.cons rfl (Sub.cons rfl (Sub.cons rfl (Sub.cons rfl (Sub.cons (congrArg (fun b => some (Value.bool b)) (by unfold okLo; rw [Bool.eq_iff_iff]; simp; try omega)) Sub.nil))))))
            · exact (fun _ h => h)
          · skip
            have h5 : ¬ (mc = (0 : Int)) := h5
            refine WP.valG rfl rfl rfl rfl rfl rfl rfl (Val.fieldAddr (j := 2) rfl Ty.fo34_2 rfl rfl) ?_
            refine WP.valG rfl rfl rfl rfl rfl rfl rfl (Val.load rfl Ty.sc2 rfl (fun w h => h.cell 0 rfl rfl)) ?_
            refine WP.valG rfl rfl rfl rfl rfl rfl rfl (Val.fieldAddr (j := 11) rfl Ty.fo25_11 rfl rfl) ?_
            refine WP.valG rfl rfl rfl rfl rfl rfl rfl (Val.load (v := .int .i64 (mc)) rfl Ty.sc2 rfl (fun w h => h.cell 2 rfl (IsReq.at hv).2.2.1)) ?_
            refine WP.valG rfl rfl rfl rfl rfl rfl rfl (Val.geq rfl rfl rfl) ?_
            refine WP.valG rfl rfl rfl rfl rfl rfl rfl (Val.pickF rfl rfl rfl) ?_
            refine WP.val rfl rfl rfl (Val.pickT rfl rfl rfl) ?_
            refine WP.val rfl rfl rfl (Val.assign rfl rfl) ?_
            refine WP.nil ?_
            refine Out.meet () ?_ ?_ ?_
            · exact trivial
            · exact (Sub.cons rfl (Sub.cons rfl (Sub.cons rfl (Sub.cons rfl (Sub.cons rfl (Sub.cons (congrArg (fun b => some (Value.bool b)) (by unfold okLo; rw [Bool.eq_iff_iff]; simp; try omega)) Sub.nil))))))
            · exact (fun _ h => h)
        · skip
          have h4 : ¬ (mm ≤ x.md) := h4
          refine WP.skip rfl rfl rfl rfl rfl rfl rfl ?_
          refine WP.skip rfl rfl rfl rfl rfl rfl rfl ?_
          refine WP.skip rfl rfl rfl rfl rfl rfl rfl ?_
          refine WP.skip rfl rfl rfl rfl rfl rfl rfl ?_
          refine WP.skipU rfl rfl rfl rfl rfl rfl ?_
          refine WP.skipU rfl rfl rfl rfl rfl rfl ?_
          refine WP.skipU rfl rfl rfl rfl rfl rfl ?_
          refine WP.skipU rfl rfl rfl rfl rfl rfl ?_
          refine WP.skipU rfl rfl rfl rfl rfl rfl ?_
          refine WP.skip rfl rfl rfl rfl rfl rfl rfl ?_
          refine WP.val rfl rfl rfl (Val.pickF rfl rfl rfl) ?_
          refine WP.val rfl rfl rfl (Val.assign rfl rfl) ?_
          refine WP.nil ?_
          refine Out.meet () ?_ ?_ ?_
          · exact trivial
          · exact (Sub.cons rfl (Sub.cons rfl (Sub.cons rfl (Sub.cons rfl (Sub.cons rfl (Sub.cons (congrArg (fun b => some (Value.bool b)) (by unfold okLo; rw [Bool.eq_iff_iff]; simp; try omega)) Sub.nil))))))
          · exact (fun _ h => h)
    · skip
      rintro _ _
      show WP _ _ _ _ _ _ [(0, .slice (some ⟨b0, o0, none⟩) l.length c0), (3, .pointer (some ⟨b1, 0, none⟩)), (5, v), (6, .int .i64 (((i : Nat) : Int))), (7, .pointer (some ⟨b2, 0, none⟩)), (8, .bool (okLo mm mc x))] (Blk b2 [.string x.key, .string x.val, .int .i64 (x.cr), .int .i64 (x.md), .int .i64 (x.ver), .int .i64 (x.ls)] 34 :: Own 34 6 v ((keepl mm xm mc xc (l.take i)).length) (KvRow.flat (keepl mm xm mc xc (l.take i))) :: Blk b1 v0 25 :: A :: F)
      refine WP.nil ?_
      refine Out.next ?_
      refine WPc.seq ?_
      refine WPc.region ?_
      refine WP.seg 23 (ι := Unit) (fun _ => True) (fun _ => [(0, .slice (some ⟨b0, o0, none⟩) l.length c0), (3, .pointer (some ⟨b1, 0, none⟩)), (5, v), (6, .int .i64 (((i : Nat) : Int))), (7, .pointer (some ⟨b2, 0, none⟩)), (8, .bool (okLo mm mc x)), (9, .bool (okHi xm xc x))]) (fun _ => Blk b2 [.string x.key, .string x.val, .int .i64 (x.cr), .int .i64 (x.md), .int .i64 (x.ver), .int .i64 (x.ls)] 34 :: Own 34 6 v ((keepl mm xm mc xc (l.take i)).length) (KvRow.flat (keepl mm xm mc xc (l.take i))) :: Blk b1 v0 25 :: A :: F) ?_ ?_
      · skip
        refine WP.val rfl rfl rfl (Val.fieldAddr (j := 10) rfl Ty.fo25_10 rfl rfl) ?_
        refine WP.val rfl rfl rfl (Val.load (v := .int .i64 (xm)) rfl Ty.sc2 rfl (fun w h => h.cell 2 rfl (IsReq.at hv).2.1)) ?_
        refine WP.val rfl rfl rfl (Val.eql rfl rfl rfl) ?_
        refine WP.val rfl rfl rfl (Val.move rfl rfl) ?_
        refine WP.split 45 rfl (fun h6 => ?_) (fun h6 => ?_)
        · skip
          have h6 : (xm = (0 : Int)) := h6
          refine WP.skip rfl rfl rfl rfl rfl rfl rfl ?_
          refine WP.skip rfl rfl rfl rfl rfl rfl rfl ?_
          refine WP.skip rfl rfl rfl rfl rfl rfl rfl ?_
          refine WP.skip rfl rfl rfl rfl rfl rfl rfl ?_
          refine WP.skip rfl rfl rfl rfl rfl rfl rfl ?_
          refine WP.val rfl rfl rfl (Val.pickT rfl rfl rfl) ?_
          refine WP.val rfl rfl rfl (Val.move rfl rfl) ?_
          refine WP.valG rfl rfl rfl rfl rfl rfl rfl (Val.fieldAddr (j := 12) rfl Ty.fo25_12 rfl rfl) ?_
          refine WP.valG rfl rfl rfl rfl rfl rfl rfl (Val.load (v := .int .i64 (xc)) rfl Ty.sc2 rfl (fun w h => h.cell 2 rfl (IsReq.at hv).2.2.2)) ?_
          refine WP.valG rfl rfl rfl rfl rfl rfl rfl (Val.eql rfl rfl rfl) ?_
          refine WP.valG rfl rfl rfl rfl rfl rfl rfl (Val.move rfl rfl) ?_
          refine WP.split 56 rfl (fun h7 => ?_) (fun h7 => ?_)
          · skip
            have h7 : (xc = (0 : Int)) := h7
            refine WP.skip rfl rfl rfl rfl rfl rfl rfl ?_
            refine WP.skip rfl rfl rfl rfl rfl rfl rfl ?_
            refine WP.skip rfl rfl rfl rfl rfl rfl rfl ?_
            refine WP.skip rfl rfl rfl rfl rfl rfl rfl ?_
            refine WP.skip rfl rfl rfl rfl rfl rfl rfl ?_
            refine WP.valG rfl rfl rfl rfl rfl rfl rfl (Val.pickT rfl rfl rfl) ?_
            refine WP.val rfl rfl rfl (Val.pickT rfl rfl rfl) ?_
            refine WP.val rfl rfl rfl (Val.assign rfl rfl) ?_
            refine WP.nil ?_
            refine Out.meet () ?_ ?_ ?_
            · exact trivial
            · exact (Sub.cons rfl (Sub.cons rfl (Sub.cons rfl (Sub.cons rfl (Sub.cons rfl (Sub.cons rfl (Sub.cons (congrArg (fun b => some (Value.bool b)) (by unfold okHi; rw [Bool.eq_iff_iff]; simp; try omega)) Sub.nil)))))))
            · exact (fun _ h => h)
          · skip
            have h7 : ¬ (xc = (0 : Int)) := h7
            refine WP.valG rfl rfl rfl rfl rfl rfl rfl (Val.fieldAddr (j := 2) rfl Ty.fo34_2 rfl rfl) ?_
            refine WP.valG rfl rfl rfl rfl rfl rfl rfl (Val.load rfl Ty.sc2 rfl (fun w h => h.cell 0 rfl rfl)) ?_
            refine WP.valG rfl rfl rfl rfl rfl rfl rfl (Val.fieldAddr (j := 12) rfl Ty.fo25_12 rfl rfl) ?_
            refine WP.valG rfl rfl rfl rfl rfl rfl rfl (Val.load (v := .int .i64 (xc)) rfl Ty.sc2 rfl (fun w h => h.cell 2 rfl (IsReq.at hv).2.2.2)) ?_
            refine WP.valG rfl rfl rfl rfl rfl rfl rfl (Val.leq rfl rfl rfl) ?_
            refine WP.valG rfl rfl rfl rfl rfl rfl rfl (Val.pickF rfl rfl rfl) ?_
            refine WP.val rfl rfl rfl (Val.pickT rfl rfl rfl) ?_
            refine WP.val rfl rfl rfl (Val.assign rfl rfl) ?_
            refine WP.nil ?_
            refine Out.meet () ?_ ?_ ?_
            · exact trivial
            · exact (Sub.cons rfl (Sub.cons rfl (Sub.cons rfl (Sub.cons rfl (Sub.cons rfl (Sub.cons rfl (Sub.cons (congrArg (fun b => some (Value.bool b)) (by unfold okHi; rw [Bool.eq_iff_iff]; simp; try omega)) Sub.nil)))))))
            · exact (fun _ h => h)
        · skip
          have h6 : ¬ (xm = (0 : Int)) := h6
          refine WP.valG rfl rfl rfl rfl rfl rfl rfl (Val.fieldAddr (j := 3) rfl Ty.fo34_3 rfl rfl) ?_
          refine WP.valG rfl rfl rfl rfl rfl rfl rfl (Val.load rfl Ty.sc2 rfl (fun w h => h.cell 0 rfl rfl)) ?_
          refine WP.valG rfl rfl rfl rfl rfl rfl rfl (Val.fieldAddr (j := 10) rfl Ty.fo25_10 rfl rfl) ?_
          refine WP.valG rfl rfl rfl rfl rfl rfl rfl (Val.load (v := .int .i64 (xm)) rfl Ty.sc2 rfl (fun w h => h.cell 2 rfl (IsReq.at hv).2.1)) ?_
          refine WP.valG rfl rfl rfl rfl rfl rfl rfl (Val.leq rfl rfl rfl) ?_
          refine WP.val rfl rfl rfl (Val.pickF rfl rfl rfl) ?_
          refine WP.val rfl rfl rfl (Val.move rfl rfl) ?_
          refine WP.split 52 rfl (fun h8 => ?_) (fun h8 => ?_)
          · skip
            have h8 : (x.md ≤ xm) := h8
            refine WP.valG rfl rfl rfl rfl rfl rfl rfl (Val.fieldAddr (j := 12) rfl Ty.fo25_12 rfl rfl) ?_
            refine WP.valG rfl rfl rfl rfl rfl rfl rfl (Val.load (v := .int .i64 (xc)) rfl Ty.sc2 rfl (fun w h => h.cell 2 rfl (IsReq.at hv).2.2.2)) ?_
            refine WP.valG rfl rfl rfl rfl rfl rfl rfl (Val.eql rfl rfl rfl) ?_
            refine WP.valG rfl rfl rfl rfl rfl rfl rfl (Val.move rfl rfl) ?_
            refine WP.split 56 rfl (fun h9 => ?_) (fun h9 => ?_)
            · skip
              have h9 : (xc = (0 : Int)) := h9
              refine WP.skip rfl rfl rfl rfl rfl rfl rfl ?_
              refine WP.skip rfl rfl rfl rfl rfl rfl rfl ?_
              refine WP.skip rfl rfl rfl rfl rfl rfl rfl ?_
              refine WP.skip rfl rfl rfl rfl rfl rfl rfl ?_
              refine WP.skip rfl rfl rfl rfl rfl rfl rfl ?_
              refine WP.valG rfl rfl rfl rfl rfl rfl rfl (Val.pickT rfl rfl rfl) ?_
              refine WP.val rfl rfl rfl (Val.pickT rfl rfl rfl) ?_
              refine WP.val rfl rfl rfl (Val.assign rfl rfl) ?_
              refine WP.nil ?_
              refine Out.meet () ?_ ?_ ?_
              · exact trivial
              · exact (Sub.cons rfl (Sub.cons rfl (Sub.cons rfl (Sub.cons rfl (Sub.cons rfl (Sub.cons rfl (Sub.cons (congrArg (fun b => some (Value.bool b)) (by unfold okHi; rw [Bool.eq_iff_iff]; simp; try omega)) Sub.nil)))))))
              · exact (fun _ h => h)
            · skip
              have h9 : ¬ (xc = (0 : Int)) := h9
              refine WP.valG rfl rfl rfl rfl rfl rfl rfl (Val.fieldAddr (j := 2) rfl Ty.fo34_2 rfl rfl) ?_
              refine WP.valG rfl rfl rfl rfl rfl rfl rfl (Val.load rfl Ty.sc2 rfl (fun w h => h.cell 0 rfl rfl)) ?_
              refine WP.valG rfl rfl rfl rfl rfl rfl rfl (Val.fieldAddr (j := 12) rfl Ty.fo25_12 rfl rfl) ?_
              refine WP.valG rfl rfl rfl rfl rfl rfl rfl (Val.load (v := .int .i64 (xc)) rfl Ty.sc2 rfl (fun w h => h.cell 2 rfl (IsReq.at hv).2.2.2)) ?_
              refine WP.valG rfl rfl rfl rfl rfl rfl rfl (Val.leq rfl rfl rfl) ?_
              refine WP.valG rfl rfl rfl rfl rfl rfl rfl (Val.pickF rfl rfl rfl) ?_
              refine WP.val rfl rfl rfl (Val.pickT rfl rfl rfl) ?_
              refine WP.val rfl rfl rfl (Val.assign rfl rfl) ?_
              refine WP.nil ?_
              refine Out.meet () ?_ ?_ ?_
              · exact trivial
              · exact (Sub.cons rfl (Sub.cons rfl (Sub.cons rfl (Sub.cons rfl (Sub.cons rfl (Sub.cons rfl (Sub.cons (congrArg (fun b => some (Value.bool b)) (by unfold okHi; rw [Bool.eq_iff_iff]; simp; try omega)) Sub.nil)))))))
              · exact (fun _ h => h)
          · skip
            have h8 : ¬ (x.md ≤ xm) := h8
            refine WP.skip rfl rfl rfl rfl rfl rfl rfl ?_
            refine WP.skip rfl rfl rfl rfl rfl rfl rfl ?_
            refine WP.skip rfl rfl rfl rfl rfl rfl rfl ?_
            refine WP.skip rfl rfl rfl rfl rfl rfl rfl ?_
            refine WP.skipU rfl rfl rfl rfl rfl rfl ?_
            refine WP.skipU rfl rfl rfl rfl rfl rfl ?_
            refine WP.skipU rfl rfl rfl rfl rfl rfl ?_
            refine WP.skipU rfl rfl rfl rfl rfl rfl ?_
            refine WP.skipU rfl rfl rfl rfl rfl rfl ?_
            refine WP.skip rfl rfl rfl rfl rfl rfl rfl ?_
            refine WP.val rfl rfl rfl (Val.pickF rfl rfl rfl) ?_
            refine WP.val rfl rfl rfl (Val.assign rfl rfl) ?_
            refine WP.nil ?_
            refine Out.meet () ?_ ?_ ?_
            · exact trivial
            · exact (Sub.cons rfl (Sub.cons rfl (Sub.cons rfl (Sub.cons rfl (Sub.cons rfl (Sub.cons rfl (Sub.cons (congrArg (fun b => some (Value.bool b)) (by unfold okHi; rw [Bool.eq_iff_iff]; simp; try omega)) Sub.nil)))))))
            · exact (fun _ h => h)
      · skip
        rintro _ _
        show WP _ _ _ _ _ _ [(0, .slice (some ⟨b0, o0, none⟩) l.length c0), (3, .pointer (some ⟨b1, 0, none⟩)), (5, v), (6, .int .i64 (((i : Nat) : Int))), (7, .pointer (some ⟨b2, 0, none⟩)), (8, .bool (okLo mm mc x)), (9, .bool (okHi xm xc x))] (Blk b2 [.string x.key, .string x.val, .int .i64 (x.cr), .int .i64 (x.md), .int .i64 (x.ver), .int .i64 (x.ls)] 34 :: Own 34 6 v ((keepl mm xm mc xc (l.take i)).length) (KvRow.flat (keepl mm xm mc xc (l.take i))) :: Blk b1 v0 25 :: A :: F)
        refine WP.nil ?_
        refine Out.next ?_
        refine WPc.seq ?_
        refine WPc.region ?_
        refine WP.val rfl rfl rfl (Val.move rfl rfl) ?_
        refine WP.val rfl rfl rfl (Val.move rfl rfl) ?_
        refine WP.splitB 65 rfl (fun h10 => ?_) (fun h10 => ?_)
        · skip
          refine WP.valG rfl rfl rfl rfl rfl rfl rfl (Val.move rfl rfl) ?_
          refine WP.val rfl rfl rfl (Val.pickT rfl rfl rfl) ?_
          refine WP.nil ?_
          refine Out.next ?_
          refine WPc.cond rfl (fun h11 => ?_) (fun h11 => ?_)
          · skip
            have h11 : (okHi xm xc x) = true := h11
            refine WPc.region ?_
            refine WP.val rfl rfl rfl (Val.move rfl rfl) ?_
            refine WP.val rfl rfl rfl (Val.loadAgg (cs := [.string x.key, .string x.val, .int .i64 (x.cr), .int .i64 (x.md), .int .i64 (x.ver), .int .i64 (x.ls)]) rfl Ty.ag34 rfl rfl (fun w h => h.range 0 rfl rfl)) ?_
            refine WP.eff rfl rfl rfl (Eff.mkSlice (C := [.string x.key, .string x.val, .int .i64 (x.cr), .int .i64 (x.md), .int .i64 (x.ver), .int .i64 (x.ls)]) rfl Ty.sl30 rfl (fun _ => by kernel_rfl)) ?_
            rintro _ _ ⟨b3, rfl, rfl⟩
            refine WP.perm pl2 ?_
            refine WP.eff rfl rfl rfl (Eff.append (m := 1) (n0 := (keepl mm xm mc xc (l.take i)).length) (news := [.string x.key, .string x.val, .int .i64 (x.cr), .int .i64 (x.md), .int .i64 (x.ver), .int .i64 (x.ls)]) rfl Ty.sl30 Ty.z34 rfl rfl rfl (.slice Ty.sl30 rfl rfl (fun w h => cells_range (h.range 1 rfl rfl))) (by omega) (by omega)) ?_
            rintro v4 _ rfl
            refine WP.val rfl rfl rfl (Val.assign rfl rfl) ?_
            refine WP.nil ?_
            refine Out.block ?_
            refine Out.next ?_
            refine WPc.region ?_
            refine WP.val rfl rfl rfl (Val.move rfl rfl) ?_
            refine WP.val rfl rfl rfl (Val.add (z := ((i + 1 : Nat) : Int)) rfl rfl rfl ((w64 (by omega) (by omega)).trans (by omega))) ?_
            refine WP.val rfl rfl rfl (Val.assign rfl rfl) ?_
            refine WP.nil ?_
            refine Out.perm pl1 ?_
            refine Out.drop ?_
            refine Out.perm pl1 ?_
            refine Out.drop ?_
            refine Out.again (i + 1, v4) ?_ ?_ ?_ ?_
            · exact (by first | omega | (dsimp only; omega))
            · first | omega | (dsimp only; omega)
            · exact (Sub.cons rfl (Sub.cons rfl (Sub.cons rfl (Sub.cons rfl Sub.nil))))
            · exact (fun w h => by dsimp only; rw [keepl_more hx, if_pos (by rw [h10, h11]; simp)]; rw [flat_snoc, List.length_append]; exact h)
          · skip
            have h11 : (okHi xm xc x) = false := h11
            refine WPc.skip ?_
            refine Out.block ?_
            refine Out.next ?_
            refine WPc.region ?_
            refine WP.val rfl rfl rfl (Val.move rfl rfl) ?_
            refine WP.val rfl rfl rfl (Val.add (z := ((i + 1 : Nat) : Int)) rfl rfl rfl ((w64 (by omega) (by omega)).trans (by omega))) ?_
            refine WP.val rfl rfl rfl (Val.assign rfl rfl) ?_
            refine WP.nil ?_
            refine Out.drop ?_
            refine Out.again (i + 1, v) ?_ ?_ ?_ ?_
            · exact (by first | omega | (dsimp only; omega))
            · first | omega | (dsimp only; omega)
            · exact (Sub.cons rfl (Sub.cons rfl (Sub.cons rfl (Sub.cons rfl Sub.nil))))
            · exact (fun w h => by dsimp only; rw [keepl_more hx, if_neg (by rw [h10, h11]; simp)]; simpa using h)
        · skip
          refine WP.skip rfl rfl rfl rfl rfl rfl rfl ?_
          refine WP.val rfl rfl rfl (Val.pickF rfl rfl rfl) ?_
          refine WP.nil ?_
          refine Out.next ?_
          refine WPc.condF rfl rfl ?_
          refine WPc.skip ?_
          refine Out.block ?_
          refine Out.next ?_
          refine WPc.region ?_
          refine WP.val rfl rfl rfl (Val.move rfl rfl) ?_
          refine WP.val rfl rfl rfl (Val.add (z := ((i + 1 : Nat) : Int)) rfl rfl rfl ((w64 (by omega) (by omega)).trans (by omega))) ?_
          refine WP.val rfl rfl rfl (Val.assign rfl rfl) ?_
          refine WP.nil ?_
          refine Out.drop ?_
          refine Out.again (i + 1, v) ?_ ?_ ?_ ?_
          · exact (by first | omega | (dsimp only; omega))
          · first | omega | (dsimp only; omega)
          · exact (Sub.cons rfl (Sub.cons rfl (Sub.cons rfl (Sub.cons rfl Sub.nil))))
          · exact (fun w h => by dsimp only; rw [keepl_more hx, if_neg (by rw [h10]; simp)]; simpa using h)
  · skip
    have h1 : ¬ (((i : Nat) : Int) < ((l.length : Nat) : Int)) := h1
    refine WPc.exit ?_
    refine Out.then_exit ?_
    refine Out.then_exit ?_
    refine Out.block_exit ?_
    refine Out.next ?_
    refine WPc.seq ?_
    refine WPc.region ?_
    refine WP.val rfl rfl rfl (Val.move rfl rfl) ?_
    refine WP.val rfl rfl rfl (Val.assign rfl rfl) ?_
    refine WP.nil ?_
    refine Out.next ?_
    refine WPc.ret ?_
    have e : i = l.length := by omega
    subst e
    refine Out.perm pl1 ?_
    refine Out.drop ?_
    exact Out.ret1 (L' := [Own 34 6 v (keepl mm xm mc xc l).length (KvRow.flat (keepl mm xm mc xc l)), A]) Try.results17 rfl ⟨v, rfl, rfl⟩ (fun w h => by rw [List.take_length] at h; exact h)

theorem ref_spec (A : HProp) (l : List KV) (hl : l.length ≤ 1000) (v0 : List Value) {ca : Option Addr} {cn cc : Nat} {mm xm mc xc : Int} (hv : Fits.IsReq v0 ca cn cc mm xm mc xc)  (va : Value) (hva : KvsIn A va l) : Does Try.prog 17 [va, .agg (v0).toArray] [A] (fun v L => ∃ u, v = u ∧ L = [Own 34 6 u (keepl mm xm mc xc l).length (KvRow.flat (keepl mm xm mc xc l)), A]) := by
  rcases hva with ⟨b0, o0, c0, rfl, hr⟩ | ⟨rfl, a, c, rfl⟩
  · exact ref_row A l hl v0 hv b0 o0 c0 hr
  · exact ref_nil A v0 hv a c

end Go.Proofs.Ytibopfemknnocaa.Flt6
