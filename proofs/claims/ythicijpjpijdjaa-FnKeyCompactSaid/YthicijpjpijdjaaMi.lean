import Derived.Test.YthicijpjpijdjaaMh
namespace Go.Proofs.Ythicijpjpijdjaa.Kp
open Go.RowKit Go.Proofs.Ythicijpjpijdjaa Go.Proofs.Ythicijpjpijdjaa.Sl Go.Proofs.Ythicijpjpijdjaa.KyP Go.Proofs.Ythicijpjpijdjaa.Ka Go.Proofs.Ythicijpjpijdjaa.Kb Go.Proofs.Ythicijpjpijdjaa.Kc Go.Proofs.Ythicijpjpijdjaa.Kd Go.Proofs.Ythicijpjpijdjaa.Ke Go.Proofs.Ythicijpjpijdjaa.Kf Go.Proofs.Ythicijpjpijdjaa.Kg Go.Proofs.Ythicijpjpijdjaa.Kh Go.Proofs.Ythicijpjpijdjaa.Ki Go.Proofs.Ythicijpjpijdjaa.Kj Go.Proofs.Ythicijpjpijdjaa.Kk Go.Proofs.Ythicijpjpijdjaa.Kl Go.Proofs.Ythicijpjpijdjaa.Km Go.Proofs.Ythicijpjpijdjaa.Kn Go.Proofs.Ythicijpjpijdjaa.Ko
set_option linter.unusedVariables false
set_option linter.unusedSimpArgs false
set_option linter.unusedSectionVars false


theorem fg_step {gs : List Gn} {at_ : Int} {j : Nat} {g : Gn} (h : gs[j]? = some g) : fg gs at_ (j + 1) = if g.revs.length = 0 then fg gs at_ j else if j + 1 ≠ gs.length ∧ lstM g ≤ at_ then -1 else if fstM g ≤ at_ then (j : Int) else fg gs at_ j := by
  conv => lhs; unfold fg
  rw [h]
theorem fst_at {g : Gn} {x : Rv} (h : g.revs[0]? = some x) : fstM g = x.m := by unfold fstM; rw [h]
theorem lst_at {g : Gn} {x : Rv} (h : g.revs[g.revs.length - 1]? = some x) : lstM g = x.m := by unfold lstM; rw [h]
section
variable {P : Program} {n : Nat} {l : List (Nat × Value)} {G : World → Prop} {o : Oper}
def ptrZ (P : Program) (t : TypeId) : Bool := match P.underlying t with
  | some (.pointer e) => (match P.info? e with | some i => i.size != 0 | none => false)
  | _ => false
theorem ptrZ_of {t : TypeId} (h : ptrZ P t = true) : ∃ e i, P.underlying t = some (.pointer e) ∧ P.info? e = some i ∧ i.size ≠ 0 := by
  unfold ptrZ at h
  split at h
  · rename_i e he
    split at h
    · rename_i i hi
      exact ⟨e, i, he, hi, by simpa using h⟩
    · cases h
  · cases h
/-- pointers to two places of one block -/
theorem Val.eqOff {t u : TypeId} {x y : Operand} {b i j : Nat} (ho : o.op = .binOp .eql t x y u) (ht : ptrZ P t = true) (hx : ev l x = some (.pointer (some ⟨b, i, none⟩))) (hy : ev l y = some (.pointer (some ⟨b, j, none⟩))) (hne : i ≠ j) : Val P n l G o (.bool false) := fun a w hf hs => by
  obtain ⟨e, k, hp, hte, hsz⟩ := ptrZ_of ht
  have h : ∀ d : Nat, (Op.equalIn (d + 1) t (.pointer (some ⟨b, i, none⟩)) (.pointer (some ⟨b, j, none⟩))).run P w = .ok false w := fun d => by
    simp [Op.equalIn, run_underlying hp, sizeOf, typeInfo, hte, hsz, sameAddr, hne]
  simp [execOp, ho, hf.ev hx, hf.ev hy, eqGuard, binOp, Op.equal, Op.maxDepth, h 9999]
theorem Val.eqSame' {t u : TypeId} {x y : Operand} {p q : Addr} (ho : o.op = .binOp .eql t x y u) (ht : ptrE P t = true) (hx : ev l x = some (.pointer (some p))) (hy : ev l y = some (.pointer (some q))) (hpq : p = q) : Val P n l G o (.bool true) := by
  subst hpq; exact Val.eqSame ho ht hx hy
theorem Val.eqOffB {t u : TypeId} {x y : Operand} {b i j : Nat} (ho : o.op = .binOp .eql t x y u) (ht : ptrZ P t = true) (ht2 : ptrE P t = true) (hx : ev l x = some (.pointer (some ⟨b, i, none⟩))) (hy : ev l y = some (.pointer (some ⟨b, j, none⟩))) : Val P n l G o (.bool (decide (i = j))) := by
  by_cases h : i = j
  · rw [decide_eq_true h]; exact Val.eqSame' ho ht2 hx hy (by rw [h])
  · rw [decide_eq_false h]; exact Val.eqOff ho ht hx hy h
theorem Val.nilEqP {t u : TypeId} {x y : Operand} {p : Addr} (ho : o.op = .binOp .eql t x y u) (ht : ptrZ P t = true) (hx : ev l x = some (.pointer none)) (hy : ev l y = some (.pointer (some p))) : Val P n l G o (.bool false) := fun a w hf hs => by
  obtain ⟨e, k, hp, hte, hsz⟩ := ptrZ_of ht
  have h : ∀ d : Nat, (Op.equalIn (d + 1) t (.pointer none) (.pointer (some p))).run P w = .ok false w := fun d => by
    simp [Op.equalIn, run_underlying hp]
  simp [execOp, ho, hf.ev hx, hf.ev hy, eqGuard, binOp, Op.equal, Op.maxDepth, h 9999]
end
theorem pz149 : ptrZ Try.prog 149 = true := by kernel_rfl
theorem pe149 : ptrE Try.prog 149 = true := by kernel_rfl
set_option maxRecDepth 100000 in
set_option maxHeartbeats 2000000 in
theorem fgen_nil (A : HProp) (b : Nat) (ka : Option Addr) (kn kc : Nat) (md : Rv) (at_ : Int) (a : Option Addr) (c : Nat) : Does Try.prog 80 [.pointer (some ⟨b, 0, none⟩), .int .i64 (at_)] [Blk b [.slice ka kn kc, .int .i64 (md.m), .int .i64 (md.s), .slice a 0 c] 153, A] (fun v L => ((fg (([] : List GV).map (·.1)) at_ 0 = -1 ∧ v = .pointer none) ∨ (∃ k bb oo cc, k < 0 ∧ fg (([] : List GV).map (·.1)) at_ 0 = ((k : Nat) : Int) ∧ ((.slice a 0 c) : Value) = .slice (some ⟨bb, oo, none⟩) 0 cc ∧ v = .pointer (some ⟨bb, oo + k * 4, none⟩))) ∧ L = [Blk b [.slice ka kn kc, .int .i64 md.m, .int .i64 md.s, (.slice a 0 c)] 153, A]) := by
  refine Does.enter 67 Try.func80 rfl rfl rfl fun W F => ?_
  show WPc _ _ _ _ _ [(0, .pointer (some ⟨b, 0, none⟩)), (1, .int .i64 (at_))] (Blk b [.slice ka kn kc, .int .i64 (md.m), .int .i64 (md.s), .slice a 0 c] 153 :: A :: F)
  refine WPc.seq ?_
  refine WPc.region ?_
  refine WP.val rfl rfl rfl (Val.assign rfl rfl) ?_
  refine WP.nil ?_
  refine Out.next ?_
  refine WPc.seq ?_
  refine WPc.region ?_
  refine WP.val rfl rfl rfl (Val.move rfl rfl) ?_
  refine WP.val rfl rfl rfl (Val.nilCheck rfl rfl) ?_
  refine WP.val rfl rfl rfl (Val.fieldAddr (j := 3) rfl Ty.fo153_2 rfl rfl) ?_
  refine WP.val rfl rfl rfl (Val.load rfl Ty.sc151 rfl (fun w h => h.cell 0 rfl rfl)) ?_
  refine WP.val rfl rfl rfl (Val.len rfl Ty.sl151 rfl) ?_
  refine WP.val rfl rfl rfl (Val.sub (z := ((0 : Nat) : Int) - 1) rfl rfl rfl (w64 (by omega) (by omega))) ?_
  refine WP.val rfl rfl rfl (Val.assign rfl rfl) ?_
  refine WP.nil ?_
  refine Out.next ?_
  refine WPc.seq ?_
  refine WPc.region ?_
  refine WP.val rfl rfl rfl (Val.move rfl rfl) ?_
  refine WP.val rfl rfl rfl (Val.assign rfl rfl) ?_
  refine WP.nil ?_
  refine Out.next ?_
  refine WPc.seq ?_
  refine WPc.block ?_
  refine WPc.loop (ι := Nat) (fun k => k ≤ 0 ∧ fg (([] : List GV).map (·.1)) at_ 0 = fg (([] : List GV).map (·.1)) at_ k) (fun k => [(0, .pointer (some ⟨b, 0, none⟩)), (1, .int .i64 (at_)), (5, .int .i64 (((0 : Nat) : Int) - 1)), (6, .int .i64 (((k : Nat) : Int) - 1))]) (fun k => Blk b [.slice ka kn kc, .int .i64 (md.m), .int .i64 (md.s), .slice a 0 c] 153 :: A :: F) (fun k => k) 0 ⟨Nat.le_refl _, rfl⟩ ((Sub.cons rfl (Sub.cons rfl (Sub.cons rfl (Sub.cons rfl Sub.nil))))) (fun _ h => h) ?_
  rintro k ⟨hk, hk2⟩
  show WPc _ _ _ _ _ [(0, .pointer (some ⟨b, 0, none⟩)), (1, .int .i64 (at_)), (5, .int .i64 (((0 : Nat) : Int) - 1)), (6, .int .i64 (((k : Nat) : Int) - 1))] (Blk b [.slice ka kn kc, .int .i64 (md.m), .int .i64 (md.s), .slice a 0 c] 153 :: A :: F)
  refine WPc.seq ?_
  refine WPc.seq ?_
  refine WPc.region ?_
  refine WP.val rfl rfl rfl (Val.move rfl rfl) ?_
  refine WP.val rfl rfl rfl (Val.geq rfl rfl rfl) ?_
  refine WP.nil ?_
  refine Out.next ?_
  refine WPc.ifP rfl (fun h1 => ?_) (fun h1 => ?_)
  · skip
    have h1 : ((0 : Int) ≤ (((k : Nat) : Int) - 1)) := h1
    exfalso; omega
  · skip
    have h1 : ¬ ((0 : Int) ≤ (((k : Nat) : Int) - 1)) := h1
    refine WPc.exit ?_
    refine Out.then_exit ?_
    refine Out.then_exit ?_
    refine Out.block_exit ?_
    refine Out.next ?_
    refine WPc.seq ?_
    refine WPc.region ?_
    refine WP.val rfl rfl rfl (Val.assign rfl rfl) ?_
    refine WP.nil ?_
    refine Out.next ?_
    refine WPc.ret ?_
    exact Out.ret1 (L' := _) Try.results80 rfl ⟨.inl ⟨(by rw [hk2, show k = 0 from by omega]; rfl), rfl⟩, rfl⟩ (fun _ h => h)

set_option maxRecDepth 100000 in
set_option maxHeartbeats 2000000 in
theorem fgen_row (A : HProp) (b : Nat) (ka : Option Addr) (kn kc : Nat) (md : Rv) (at_ : Int) (l : List GV) (hsm : Small (l.map (·.1))) (hin : ∀ p ∈ l, Rd A 2 Rv.cells p.2 p.1.revs) (b0 o0 c0 : Nat) (hr : ∀ w, Holds A w → ∀ i x, l[i]? = some x → w.rangeAt b0 (o0 + i * 4) (GV.cells x)) : Does Try.prog 80 [.pointer (some ⟨b, 0, none⟩), .int .i64 (at_)] [Blk b [.slice ka kn kc, .int .i64 (md.m), .int .i64 (md.s), .slice (some ⟨b0, o0, none⟩) l.length c0] 153, A] (fun v L => ((fg (l.map (·.1)) at_ l.length = -1 ∧ v = .pointer none) ∨ (∃ k bb oo cc, k < l.length ∧ fg (l.map (·.1)) at_ l.length = ((k : Nat) : Int) ∧ ((.slice (some ⟨b0, o0, none⟩) l.length c0) : Value) = .slice (some ⟨bb, oo, none⟩) l.length cc ∧ v = .pointer (some ⟨bb, oo + k * 4, none⟩))) ∧ L = [Blk b [.slice ka kn kc, .int .i64 md.m, .int .i64 md.s, (.slice (some ⟨b0, o0, none⟩) l.length c0)] 153, A]) := by
  refine Does.enter 67 Try.func80 rfl rfl rfl fun W F => ?_
  show WPc _ _ _ _ _ [(0, .pointer (some ⟨b, 0, none⟩)), (1, .int .i64 (at_))] (Blk b [.slice ka kn kc, .int .i64 (md.m), .int .i64 (md.s), .slice (some ⟨b0, o0, none⟩) l.length c0] 153 :: A :: F)
  refine WPc.seq ?_
  refine WPc.region ?_
  refine WP.val rfl rfl rfl (Val.assign rfl rfl) ?_
  refine WP.nil ?_
  refine Out.next ?_
  refine WPc.seq ?_
  have hlen := hsm.len
  refine WPc.region ?_
  refine WP.val rfl rfl rfl (Val.move rfl rfl) ?_
  refine WP.val rfl rfl rfl (Val.nilCheck rfl rfl) ?_
  refine WP.val rfl rfl rfl (Val.fieldAddr (j := 3) rfl Ty.fo153_2 rfl rfl) ?_
  refine WP.val rfl rfl rfl (Val.load rfl Ty.sc151 rfl (fun w h => h.cell 0 rfl rfl)) ?_
  refine WP.val rfl rfl rfl (Val.len rfl Ty.sl151 rfl) ?_
  refine WP.val rfl rfl rfl (Val.sub (z := ((l.length : Nat) : Int) - 1) rfl rfl rfl (w64 (by omega) (by omega))) ?_
  refine WP.val rfl rfl rfl (Val.assign rfl rfl) ?_
  refine WP.nil ?_
  refine Out.next ?_
  refine WPc.seq ?_
  refine WPc.region ?_
  refine WP.val rfl rfl rfl (Val.move rfl rfl) ?_
  refine WP.val rfl rfl rfl (Val.assign rfl rfl) ?_
  refine WP.nil ?_
  refine Out.next ?_
  refine WPc.seq ?_
  refine WPc.block ?_
  refine WPc.loop (ι := Nat) (fun k => k ≤ l.length ∧ fg (l.map (·.1)) at_ l.length = fg (l.map (·.1)) at_ k) (fun k => [(0, .pointer (some ⟨b, 0, none⟩)), (1, .int .i64 (at_)), (5, .int .i64 (((l.length : Nat) : Int) - 1)), (6, .int .i64 (((k : Nat) : Int) - 1))]) (fun k => Blk b [.slice ka kn kc, .int .i64 (md.m), .int .i64 (md.s), .slice (some ⟨b0, o0, none⟩) l.length c0] 153 :: A :: F) (fun k => k) l.length ⟨Nat.le_refl _, rfl⟩ ((Sub.cons rfl (Sub.cons rfl (Sub.cons rfl (Sub.cons rfl Sub.nil))))) (fun _ h => h) ?_
  rintro k ⟨hk, hk2⟩
  show WPc _ _ _ _ _ [(0, .pointer (some ⟨b, 0, none⟩)), (1, .int .i64 (at_)), (5, .int .i64 (((l.length : Nat) : Int) - 1)), (6, .int .i64 (((k : Nat) : Int) - 1))] (Blk b [.slice ka kn kc, .int .i64 (md.m), .int .i64 (md.s), .slice (some ⟨b0, o0, none⟩) l.length c0] 153 :: A :: F)
  refine WPc.seq ?_
  refine WPc.seq ?_
  refine WPc.region ?_
  refine WP.val rfl rfl rfl (Val.move rfl rfl) ?_
  refine WP.val rfl rfl rfl (Val.geq rfl rfl rfl) ?_
  refine WP.nil ?_
  refine Out.next ?_
  refine WPc.ifP rfl (fun h1 => ?_) (fun h1 => ?_)
  · skip
    have h1 : ((0 : Int) ≤ (((k : Nat) : Int) - 1)) := h1
    refine WPc.skip ?_
    refine Out.next ?_
    refine WPc.block ?_
    refine WPc.seq ?_
    refine WPc.seq ?_
    obtain ⟨j, rfl⟩ : ∃ j, k = j + 1 := ⟨k - 1, by omega⟩
    refine WPc.know 6 (.int .i64 ((j : Nat) : Int)) rfl (congrArg (Value.int .i64) (by omega)) ?_
    have hlt : j < l.length := by omega
    obtain ⟨⟨g, u⟩, hx⟩ : ∃ x, l[j]? = some x := ⟨_, List.getElem?_eq_getElem hlt⟩
    have hxm : (g, u) ∈ l := List.mem_iff_getElem?.2 ⟨_, hx⟩
    have hin1 : Rd A 2 Rv.cells u g.revs := hin _ hxm
    have hsx : g.revs.length ≤ 200000 := hsm.inn hxm
    have hgj : (l.map (·.1))[j]? = some g := by rw [List.getElem?_map, hx]; rfl
    have hst := fg_step (at_ := at_) hgj
    rw [List.length_map] at hst
    refine WPc.region ?_
    refine WP.val rfl rfl rfl (Val.move rfl rfl) ?_
    refine WP.val rfl rfl rfl (Val.nilCheck rfl rfl) ?_
    refine WP.val rfl rfl rfl (Val.fieldAddr (j := 3) rfl Ty.fo153_2 rfl rfl) ?_
    refine WP.val rfl rfl rfl (Val.load rfl Ty.sc151 rfl (fun w h => h.cell 0 rfl rfl)) ?_
    refine WP.val rfl rfl rfl (Val.move rfl rfl) ?_
    refine WP.val rfl rfl rfl (Val.indexAddr (j := j) (q := o0 + j * 4) rfl Ty.sl151 rfl rfl (by omega) (by omega) (by omega)) ?_
    refine WP.val rfl rfl rfl (Val.fieldAddr (j := o0 + j * 4 + 3) rfl Ty.fo155_2 rfl rfl) ?_
    refine WP.val rfl rfl rfl (Val.load (v := u) rfl Ty.sc132 rfl (fun w h => hr w (h.at 1 rfl) (j) (g, u) hx 3 _ rfl)) ?_
    refine WP.val rfl rfl rfl (Rd.len hin1 rfl Ty.sl132 rfl) ?_
    refine WP.val rfl rfl rfl (Val.eql rfl rfl rfl) ?_
    refine WP.nil ?_
    refine Out.next ?_
    refine WPc.ifP rfl (fun h2 => ?_) (fun h2 => ?_)
    · skip
      have h2 : (((g.revs.length : Nat) : Int) = (0 : Int)) := h2
      refine WPc.seq ?_
      refine WPc.region ?_
      refine WP.val rfl rfl rfl (Val.move rfl rfl) ?_
      refine WP.val rfl rfl rfl (Val.sub (z := ((j : Nat) : Int) - 1) rfl rfl rfl (w64 (by omega) (by omega))) ?_
      refine WP.val rfl rfl rfl (Val.assign rfl rfl) ?_
      refine WP.nil ?_
      refine Out.next ?_
      refine WPc.exit ?_
      refine Out.then_exit ?_
      refine Out.block_exit ?_
      refine Out.again j ?_ ?_ ?_ ?_
      · exact (by refine ⟨by omega, hk2.trans (hst.trans ?_)⟩; first | rw [if_pos (by omega)] | rw [if_neg (by omega), if_neg (by omega), if_neg (by omega)])
      · first | omega | (dsimp only; omega)
      · exact (Sub.cons rfl (Sub.cons rfl (Sub.cons rfl (Sub.cons rfl Sub.nil))))
      · exact (fun _ h => h)
    · skip
      have h2 : ¬ (((g.revs.length : Nat) : Int) = (0 : Int)) := h2
      refine WPc.skip ?_
      refine Out.next ?_
      refine WPc.seq ?_
      obtain ⟨bi, oi, ci, rfl, hri⟩ := Rd.row hin1 (by omega)
      obtain ⟨y0, hy0⟩ : ∃ y, g.revs[0]? = some y := ⟨_, List.getElem?_eq_getElem (by omega)⟩
      obtain ⟨y1, hy1⟩ : ∃ y, g.revs[g.revs.length - 1]? = some y := ⟨_, List.getElem?_eq_getElem (by omega)⟩
      have hf0 := fst_at hy0
      have hl1 := lst_at hy1
      refine WPc.region ?_
      refine WP.val rfl rfl rfl (Val.move rfl rfl) ?_
      refine WP.val rfl rfl rfl (Val.nilCheck rfl rfl) ?_
      refine WP.val rfl rfl rfl (Val.fieldAddr (j := 3) rfl Ty.fo153_2 rfl rfl) ?_
      refine WP.val rfl rfl rfl (Val.load rfl Ty.sc151 rfl (fun w h => h.cell 0 rfl rfl)) ?_
      refine WP.val rfl rfl rfl (Val.move rfl rfl) ?_
      refine WP.val rfl rfl rfl (Val.indexAddr (j := j) (q := o0 + j * 4) rfl Ty.sl151 rfl rfl (by omega) (by omega) (by omega)) ?_
      refine WP.val rfl rfl rfl (Val.loadAgg (cs := (GV.cells (g, .slice (some ⟨bi, oi, none⟩) g.revs.length ci))) rfl Ty.ag155 rfl (by rfl) (fun w h => hr w (h.at 1 rfl) j (g, _) hx)) ?_
      refine WP.eff rfl rfl rfl (Eff.alloc rfl Ty.z155) ?_
      rintro _ _ ⟨b1, rfl, rfl⟩
      refine WP.eff0 rfl rfl (Eff.storeAgg (cs := [.int .i64 (g.v), .int .i64 (g.c.m), .int .i64 (g.c.s), .slice (some ⟨bi, oi, none⟩) g.revs.length ci]) (C' := [.int .i64 (g.v), .int .i64 (g.c.m), .int .i64 (g.c.s), .slice (some ⟨bi, oi, none⟩) g.revs.length ci]) rfl Ty.ag155 rfl rfl rfl rfl (by simp) rfl) ?_
      rintro _ _ rfl
      refine WP.nil ?_
      refine Out.next ?_
      refine WPc.seq ?_
      refine WPc.seq ?_
      refine WPc.region ?_
      refine WP.val rfl rfl rfl (Val.move rfl rfl) ?_
      refine WP.val rfl rfl rfl (Val.move rfl rfl) ?_
      refine WP.val rfl rfl rfl (Val.neq rfl rfl rfl) ?_
      refine WP.nil ?_
      refine Out.next ?_
      refine WPc.ifP rfl (fun h3 => ?_) (fun h3 => ?_)
      · skip
        have h3 : (((j : Nat) : Int) ≠ (((l.length : Nat) : Int) - 1)) := h3
        refine WPc.seq ?_
        refine WPc.region ?_
        refine WP.val rfl rfl rfl (Val.fieldAddr (j := 3) rfl Ty.fo155_2 rfl rfl) ?_
        refine WP.val rfl rfl rfl (Val.load rfl Ty.sc132 rfl (fun w h => h.cell 0 rfl rfl)) ?_
        refine WP.val rfl rfl rfl (Val.fieldAddr (j := 3) rfl Ty.fo155_2 rfl rfl) ?_
        refine WP.val rfl rfl rfl (Val.load rfl Ty.sc132 rfl (fun w h => h.cell 0 rfl rfl)) ?_
        refine WP.val rfl rfl rfl (Val.len rfl Ty.sl132 rfl) ?_
        refine WP.val rfl rfl rfl (Val.sub (z := ((g.revs.length - 1 : Nat) : Int)) rfl rfl rfl ((w64 (by omega) (by omega)).trans (by omega))) ?_
        refine WP.val rfl rfl rfl (Val.indexAddr (j := g.revs.length - 1) (q := oi + (g.revs.length - 1) * 2) rfl Ty.sl132 rfl rfl (by omega) (by omega) (by omega)) ?_
        refine WP.val rfl rfl rfl (Val.fieldAddr (j := oi + (g.revs.length - 1) * 2) rfl Ty.fo81_0 rfl rfl) ?_
        refine WP.val rfl rfl rfl (Val.load (v := .int .i64 (y1.m)) rfl Ty.sc2 rfl (fun w h => hri w (h.at 2 rfl) _ y1 hy1 0 _ rfl)) ?_
        refine WP.val rfl rfl rfl (Val.assign rfl rfl) ?_
        refine WP.nil ?_
        refine Out.next ?_
        refine WPc.seq ?_
        refine WPc.region ?_
        refine WP.val rfl rfl rfl (Val.move rfl rfl) ?_
        refine WP.val rfl rfl rfl (Val.move rfl rfl) ?_
        refine WP.val rfl rfl rfl (Val.leq rfl rfl rfl) ?_
        refine WP.nil ?_
        refine Out.next ?_
        refine WPc.ifP rfl (fun h4 => ?_) (fun h4 => ?_)
        · skip
          have h4 : (y1.m ≤ at_) := h4
          refine WPc.seq ?_
          refine WPc.region ?_
          refine WP.val rfl rfl rfl (Val.assign rfl rfl) ?_
          refine WP.nil ?_
          refine Out.next ?_
          refine WPc.ret ?_
          refine Out.then_ret ?_
          refine Out.block_ret ?_
          refine Out.then_ret ?_
          refine Out.block_ret ?_
          refine Out.then_ret ?_
          refine Out.drop ?_
          exact Out.ret1 (L' := _) Try.results80 rfl ⟨.inl ⟨hk2.trans (hst.trans (by rw [if_neg (by omega), if_pos (by omega)])), rfl⟩, rfl⟩ (fun _ h => h)
        · skip
          have h4 : ¬ (y1.m ≤ at_) := h4
          refine WPc.skip ?_
          refine Out.next ?_
          refine WPc.seq ?_
          refine WPc.seq ?_
          refine WPc.region ?_
          refine WP.val rfl rfl rfl (Val.fieldAddr (j := 3) rfl Ty.fo155_2 rfl rfl) ?_
          refine WP.val rfl rfl rfl (Val.load rfl Ty.sc132 rfl (fun w h => h.cell 0 rfl rfl)) ?_
          refine WP.val rfl rfl rfl (Val.indexAddr (j := 0) (q := oi + 0 * 2) rfl Ty.sl132 rfl rfl (by omega) (by omega) (by omega)) ?_
          refine WP.val rfl rfl rfl (Val.fieldAddr (j := oi + 0 * 2) rfl Ty.fo81_0 rfl rfl) ?_
          refine WP.val rfl rfl rfl (Val.load (v := .int .i64 (y0.m)) rfl Ty.sc2 rfl (fun w h => hri w (h.at 2 rfl) 0 y0 hy0 0 _ rfl)) ?_
          refine WP.val rfl rfl rfl (Val.move rfl rfl) ?_
          refine WP.val rfl rfl rfl (Val.leq rfl rfl rfl) ?_
          refine WP.nil ?_
          refine Out.next ?_
          refine WPc.ifP rfl (fun h5 => ?_) (fun h5 => ?_)
          · skip
            have h5 : (y0.m ≤ at_) := h5
            refine WPc.seq ?_
            refine WPc.region ?_
            refine WP.val rfl rfl rfl (Val.move rfl rfl) ?_
            refine WP.val rfl rfl rfl (Val.nilCheck rfl rfl) ?_
            refine WP.val rfl rfl rfl (Val.fieldAddr (j := 3) rfl Ty.fo153_2 rfl rfl) ?_
            refine WP.val rfl rfl rfl (Val.load rfl Ty.sc151 rfl (fun w h => h.cell 1 rfl rfl)) ?_
            refine WP.val rfl rfl rfl (Val.move rfl rfl) ?_
            refine WP.val rfl rfl rfl (Val.indexAddr (j := j) (q := o0 + j * 4) rfl Ty.sl151 rfl rfl (by omega) (by omega) (by omega)) ?_
            refine WP.val rfl rfl rfl (Val.assign rfl rfl) ?_
            refine WP.nil ?_
            refine Out.next ?_
            refine WPc.ret ?_
            refine Out.then_ret ?_
            refine Out.block_ret ?_
            refine Out.then_ret ?_
            refine Out.block_ret ?_
            refine Out.then_ret ?_
            refine Out.drop ?_
            exact Out.ret1 (L' := _) Try.results80 rfl ⟨.inr ⟨j, b0, o0, c0, by omega, hk2.trans (hst.trans (by rw [if_neg (by omega), if_neg (by omega), if_pos (by omega)])), rfl, rfl⟩, rfl⟩ (fun _ h => h)
          · skip
            have h5 : ¬ (y0.m ≤ at_) := h5
            refine WPc.skip ?_
            refine Out.next ?_
            refine WPc.region ?_
            refine WP.val rfl rfl rfl (Val.move rfl rfl) ?_
            refine WP.val rfl rfl rfl (Val.sub (z := ((j : Nat) : Int) - 1) rfl rfl rfl (w64 (by omega) (by omega))) ?_
            refine WP.val rfl rfl rfl (Val.assign rfl rfl) ?_
            refine WP.nil ?_
            refine Out.block ?_
            refine Out.drop ?_
            refine Out.again j ?_ ?_ ?_ ?_
            · exact (by refine ⟨by omega, hk2.trans (hst.trans ?_)⟩; first | rw [if_pos (by omega)] | rw [if_neg (by omega), if_neg (by omega), if_neg (by omega)])
            · first | omega | (dsimp only; omega)
            · exact (Sub.cons rfl (Sub.cons rfl (Sub.cons rfl (Sub.cons rfl Sub.nil))))
            · exact (fun _ h => h)
      · skip
        have h3 : ¬ (((j : Nat) : Int) ≠ (((l.length : Nat) : Int) - 1)) := h3
        refine WPc.skip ?_
        refine Out.next ?_
        refine WPc.seq ?_
        refine WPc.seq ?_
        refine WPc.region ?_
        refine WP.val rfl rfl rfl (Val.fieldAddr (j := 3) rfl Ty.fo155_2 rfl rfl) ?_
        refine WP.val rfl rfl rfl (Val.load rfl Ty.sc132 rfl (fun w h => h.cell 0 rfl rfl)) ?_
        refine WP.val rfl rfl rfl (Val.indexAddr (j := 0) (q := oi + 0 * 2) rfl Ty.sl132 rfl rfl (by omega) (by omega) (by omega)) ?_
        refine WP.val rfl rfl rfl (Val.fieldAddr (j := oi + 0 * 2) rfl Ty.fo81_0 rfl rfl) ?_
        refine WP.val rfl rfl rfl (Val.load (v := .int .i64 (y0.m)) rfl Ty.sc2 rfl (fun w h => hri w (h.at 2 rfl) 0 y0 hy0 0 _ rfl)) ?_
        refine WP.val rfl rfl rfl (Val.move rfl rfl) ?_
        refine WP.val rfl rfl rfl (Val.leq rfl rfl rfl) ?_
        refine WP.nil ?_
        refine Out.next ?_
        refine WPc.ifP rfl (fun h6 => ?_) (fun h6 => ?_)
        · skip
          have h6 : (y0.m ≤ at_) := h6
          refine WPc.seq ?_
          refine WPc.region ?_
          refine WP.val rfl rfl rfl (Val.move rfl rfl) ?_
          refine WP.val rfl rfl rfl (Val.nilCheck rfl rfl) ?_
          refine WP.val rfl rfl rfl (Val.fieldAddr (j := 3) rfl Ty.fo153_2 rfl rfl) ?_
          refine WP.val rfl rfl rfl (Val.load rfl Ty.sc151 rfl (fun w h => h.cell 1 rfl rfl)) ?_
          refine WP.val rfl rfl rfl (Val.move rfl rfl) ?_
          refine WP.val rfl rfl rfl (Val.indexAddr (j := j) (q := o0 + j * 4) rfl Ty.sl151 rfl rfl (by omega) (by omega) (by omega)) ?_
          refine WP.val rfl rfl rfl (Val.assign rfl rfl) ?_
          refine WP.nil ?_
          refine Out.next ?_
          refine WPc.ret ?_
          refine Out.then_ret ?_
          refine Out.block_ret ?_
          refine Out.then_ret ?_
          refine Out.block_ret ?_
          refine Out.then_ret ?_
          refine Out.drop ?_
          exact Out.ret1 (L' := _) Try.results80 rfl ⟨.inr ⟨j, b0, o0, c0, by omega, hk2.trans (hst.trans (by rw [if_neg (by omega), if_neg (by omega), if_pos (by omega)])), rfl, rfl⟩, rfl⟩ (fun _ h => h)
        · skip
          have h6 : ¬ (y0.m ≤ at_) := h6
          refine WPc.skip ?_
          refine Out.next ?_
          refine WPc.region ?_
          refine WP.val rfl rfl rfl (Val.move rfl rfl) ?_
          refine WP.val rfl rfl rfl (Val.sub (z := ((j : Nat) : Int) - 1) rfl rfl rfl (w64 (by omega) (by omega))) ?_
          refine WP.val rfl rfl rfl (Val.assign rfl rfl) ?_
          refine WP.nil ?_
          refine Out.block ?_
          refine Out.drop ?_
          refine Out.again j ?_ ?_ ?_ ?_
          · exact (by refine ⟨by omega, hk2.trans (hst.trans ?_)⟩; first | rw [if_pos (by omega)] | rw [if_neg (by omega), if_neg (by omega), if_neg (by omega)])
          · first | omega | (dsimp only; omega)
          · exact (Sub.cons rfl (Sub.cons rfl (Sub.cons rfl (Sub.cons rfl Sub.nil))))
          · exact (fun _ h => h)
  · skip
    have h1 : ¬ ((0 : Int) ≤ (((k : Nat) : Int) - 1)) := h1
    refine WPc.exit ?_
    refine Out.then_exit ?_
    refine Out.then_exit ?_
    refine Out.block_exit ?_
    refine Out.next ?_
    refine WPc.seq ?_
    refine WPc.region ?_
    refine WP.val rfl rfl rfl (Val.assign rfl rfl) ?_
    refine WP.nil ?_
    refine Out.next ?_
    refine WPc.ret ?_
    exact Out.ret1 (L' := _) Try.results80 rfl ⟨.inl ⟨(by rw [hk2, show k = 0 from by omega]; rfl), rfl⟩, rfl⟩ (fun _ h => h)

theorem fgen_spec (A : HProp) (b : Nat) (ka : Option Addr) (kn kc : Nat) (md : Rv) (at_ : Int) (l : List GV) (hsm : Small (l.map (·.1))) (hin : ∀ p ∈ l, Rd A 2 Rv.cells p.2 p.1.revs) (va : Value) (hva : Rd A 4 GV.cells va l) : Does Try.prog 80 [.pointer (some ⟨b, 0, none⟩), .int .i64 (at_)] [Blk b [.slice ka kn kc, .int .i64 (md.m), .int .i64 (md.s), va] 153, A] (fun v L => ((fg (l.map (·.1)) at_ l.length = -1 ∧ v = .pointer none) ∨ (∃ k bb oo cc, k < l.length ∧ fg (l.map (·.1)) at_ l.length = ((k : Nat) : Int) ∧ (va : Value) = .slice (some ⟨bb, oo, none⟩) l.length cc ∧ v = .pointer (some ⟨bb, oo + k * 4, none⟩))) ∧ L = [Blk b [.slice ka kn kc, .int .i64 md.m, .int .i64 md.s, va] 153, A]) := by
  rcases hva with ⟨b0, o0, c0, rfl, hr⟩ | ⟨rfl, a, c, rfl⟩
  · exact fgen_row A b ka kn kc md at_ l hsm hin b0 o0 c0 hr
  · exact fgen_nil A b ka kn kc md at_ a c

end Go.Proofs.Ythicijpjpijdjaa.Kp

namespace Go.Proofs.Ythicijpjpijdjaa.Kq
open Go.RowKit Go.Proofs.Ythicijpjpijdjaa Go.Proofs.Ythicijpjpijdjaa.Sl Go.Proofs.Ythicijpjpijdjaa.KyP Go.Proofs.Ythicijpjpijdjaa.Ka Go.Proofs.Ythicijpjpijdjaa.Kb Go.Proofs.Ythicijpjpijdjaa.Kc Go.Proofs.Ythicijpjpijdjaa.Kd Go.Proofs.Ythicijpjpijdjaa.Ke Go.Proofs.Ythicijpjpijdjaa.Kf Go.Proofs.Ythicijpjpijdjaa.Kg Go.Proofs.Ythicijpjpijdjaa.Kh Go.Proofs.Ythicijpjpijdjaa.Ki Go.Proofs.Ythicijpjpijdjaa.Kj Go.Proofs.Ythicijpjpijdjaa.Kk Go.Proofs.Ythicijpjpijdjaa.Kl Go.Proofs.Ythicijpjpijdjaa.Km Go.Proofs.Ythicijpjpijdjaa.Kn Go.Proofs.Ythicijpjpijdjaa.Ko Go.Proofs.Ythicijpjpijdjaa.Kp
set_option linter.unusedVariables false
set_option linter.unusedSimpArgs false
set_option linter.unusedSectionVars false

set_option maxRecDepth 100000 in
set_option maxHeartbeats 2000000 in
theorem find_nil (A : HProp) (b : Nat) (ka : Option Addr) (kn kc : Nat) (md : Rv) (at_ : Int) (a : Option Addr) (c : Nat) : Does Try.prog 37 [.agg #[.pointer (some ⟨b, 0, none⟩)], .int .i64 (at_)] [Blk b [.slice ka kn kc, .int .i64 (md.m), .int .i64 (md.s), .slice a 0 c] 153, A] (fun v L => v = .int .i64 (fg (([] : List GV).map (·.1)) at_ 0) ∧ L = [Blk b [.slice ka kn kc, .int .i64 md.m, .int .i64 md.s, (.slice a 0 c)] 153, A]) := by
  refine Does.enter 31 Try.func37 rfl rfl rfl fun W F => ?_
  show WPc _ _ _ _ _ [(0, .agg #[.pointer (some ⟨b, 0, none⟩)]), (1, .int .i64 (at_))] (Blk b [.slice ka kn kc, .int .i64 (md.m), .int .i64 (md.s), .slice a 0 c] 153 :: A :: F)
  refine WPc.seq ?_
  refine WPc.region ?_
  refine WP.eff rfl rfl rfl (Eff.box (C := [.pointer (some ⟨b, 0, none⟩)]) rfl rfl rfl) ?_
  rintro _ _ ⟨b1, rfl, rfl⟩
  refine WP.val rfl rfl rfl (Val.assign rfl rfl) ?_
  refine WP.nil ?_
  refine Out.next ?_
  refine WPc.seq ?_
  refine WPc.region ?_
  refine WP.val rfl rfl rfl (Val.fieldAddr (j := 0) rfl Ty.fo78_0 rfl rfl) ?_
  refine WP.val rfl rfl rfl (Val.load rfl Ty.sc76 rfl (fun w h => h.cell 0 rfl rfl)) ?_
  refine WP.val rfl rfl rfl (Val.move rfl rfl) ?_
  refine WP.perm pl2 ?_
  refine WP.perm pl2 ?_
  refine WP.eff rfl rfl rfl (Eff.call rfl rfl Try.call80 (fgen_nil A b ka kn kc md at_ a c)) ?_
  rintro vp _ ⟨_, ⟨hfg, rfl⟩, rfl⟩
  show WP _ _ _ _ _ _ _ (Blk b [.slice ka kn kc, .int .i64 (md.m), .int .i64 (md.s), .slice a 0 c] 153 :: A :: Blk b1 [.pointer (some ⟨b, 0, none⟩)] 78 :: F)
  refine WP.val rfl rfl rfl (Val.assign rfl rfl) ?_
  refine WP.nil ?_
  refine Out.next ?_
  refine WPc.seq ?_
  refine WPc.seq ?_
  rcases hfg with ⟨hfg, rfl⟩ | ⟨k, bb, oo, cc, hk, hfg, he, rfl⟩
  · skip
    refine WPc.region ?_
    refine WP.val rfl rfl rfl (Val.fieldAddr (j := 0) rfl Ty.fo78_0 rfl rfl) ?_
    refine WP.val rfl rfl rfl (Val.load rfl Ty.sc76 rfl (fun w h => h.cell 2 rfl rfl)) ?_
    refine WP.val rfl rfl rfl (Val.nilCheck rfl rfl) ?_
    refine WP.val rfl rfl rfl (Val.fieldAddr (j := 3) rfl Ty.fo153_2 rfl rfl) ?_
    refine WP.val rfl rfl rfl (Val.load rfl Ty.sc151 rfl (fun w h => h.cell 0 rfl rfl)) ?_
    refine WP.val rfl rfl rfl (Val.len rfl Ty.sl151 rfl) ?_
    refine WP.val rfl rfl rfl (Val.move rfl rfl) ?_
    refine WP.nil ?_
    refine Out.next ?_
    refine WPc.block ?_
    refine WPc.perm pl1 ?_
    refine WPc.perm pl1 ?_
    refine WPc.perm pl2 ?_
    refine WPc.loop (ι := Nat) (fun i => i ≤ 0) (fun i => [(2, .pointer (some ⟨b1, 0, none⟩)), (5, .pointer none), (16, .int .i64 0), (17, .int .i64 (((i : Nat) : Int)))]) (fun i => Blk b1 [.pointer (some ⟨b, 0, none⟩)] 78 :: Blk b [.slice ka kn kc, .int .i64 (md.m), .int .i64 (md.s), .slice a 0 c] 153 :: A :: F) (fun i => 0 - i) 0 (Nat.zero_le _) ((Sub.cons rfl (Sub.cons rfl (Sub.cons rfl (Sub.cons rfl Sub.nil))))) (fun _ h => h) ?_
    rintro i hi
    show WPc _ _ _ _ _ [(2, .pointer (some ⟨b1, 0, none⟩)), (5, .pointer none), (16, .int .i64 0), (17, .int .i64 (((i : Nat) : Int)))] (Blk b1 [.pointer (some ⟨b, 0, none⟩)] 78 :: Blk b [.slice ka kn kc, .int .i64 (md.m), .int .i64 (md.s), .slice a 0 c] 153 :: A :: F)
    replace hi : i ≤ 0 := hi
    refine WPc.seq ?_
    refine WPc.region ?_
    refine WP.val rfl rfl rfl (Val.lss rfl rfl rfl) ?_
    refine WP.nil ?_
    refine Out.next ?_
    refine WPc.seq ?_
    refine WPc.ifP rfl (fun h1 => ?_) (fun h1 => ?_)
    · skip
      have h1 : (((i : Nat) : Int) < (0 : Int)) := h1
      exfalso; omega
    · skip
      have h1 : ¬ (((i : Nat) : Int) < (0 : Int)) := h1
      refine WPc.exit ?_
      refine Out.then_exit ?_
      refine Out.then_exit ?_
      refine Out.block_exit ?_
      refine Out.next ?_
      refine WPc.seq ?_
      refine WPc.region ?_
      refine WP.val rfl rfl rfl (Val.assign rfl rfl) ?_
      refine WP.nil ?_
      refine Out.next ?_
      refine WPc.ret ?_
      refine Out.drop ?_
      exact Out.ret1 (L' := _) Try.results37 rfl ⟨congrArg (Value.int .i64) (show _ = fg (([] : List GV).map (·.1)) at_ 0 by rw [hfg]), rfl⟩ (fun _ h => h)
  · skip
    exact absurd hk (Nat.not_lt_zero _)

set_option maxRecDepth 100000 in
set_option maxHeartbeats 2000000 in
theorem find_row (A : HProp) (b : Nat) (ka : Option Addr) (kn kc : Nat) (md : Rv) (at_ : Int) (l : List GV) (hsm : Small (l.map (·.1))) (hin : ∀ p ∈ l, Rd A 2 Rv.cells p.2 p.1.revs) (b0 o0 c0 : Nat) (hr : ∀ w, Holds A w → ∀ i x, l[i]? = some x → w.rangeAt b0 (o0 + i * 4) (GV.cells x)) : Does Try.prog 37 [.agg #[.pointer (some ⟨b, 0, none⟩)], .int .i64 (at_)] [Blk b [.slice ka kn kc, .int .i64 (md.m), .int .i64 (md.s), .slice (some ⟨b0, o0, none⟩) l.length c0] 153, A] (fun v L => v = .int .i64 (fg (l.map (·.1)) at_ l.length) ∧ L = [Blk b [.slice ka kn kc, .int .i64 md.m, .int .i64 md.s, (.slice (some ⟨b0, o0, none⟩) l.length c0)] 153, A]) := by
  refine Does.enter 31 Try.func37 rfl rfl rfl fun W F => ?_
  show WPc _ _ _ _ _ [(0, .agg #[.pointer (some ⟨b, 0, none⟩)]), (1, .int .i64 (at_))] (Blk b [.slice ka kn kc, .int .i64 (md.m), .int .i64 (md.s), .slice (some ⟨b0, o0, none⟩) l.length c0] 153 :: A :: F)
  refine WPc.seq ?_
  refine WPc.region ?_
  refine WP.eff rfl rfl rfl (Eff.box (C := [.pointer (some ⟨b, 0, none⟩)]) rfl rfl rfl) ?_
  rintro _ _ ⟨b1, rfl, rfl⟩
  refine WP.val rfl rfl rfl (Val.assign rfl rfl) ?_
  refine WP.nil ?_
  refine Out.next ?_
  refine WPc.seq ?_
  have hlen := hsm.len
  refine WPc.region ?_
  refine WP.val rfl rfl rfl (Val.fieldAddr (j := 0) rfl Ty.fo78_0 rfl rfl) ?_
  refine WP.val rfl rfl rfl (Val.load rfl Ty.sc76 rfl (fun w h => h.cell 0 rfl rfl)) ?_
  refine WP.val rfl rfl rfl (Val.move rfl rfl) ?_
  refine WP.perm pl2 ?_
  refine WP.perm pl2 ?_
  refine WP.eff rfl rfl rfl (Eff.call rfl rfl Try.call80 (fgen_row A b ka kn kc md at_ l hsm hin b0 o0 c0 hr)) ?_
  rintro vp _ ⟨_, ⟨hfg, rfl⟩, rfl⟩
  show WP _ _ _ _ _ _ _ (Blk b [.slice ka kn kc, .int .i64 (md.m), .int .i64 (md.s), .slice (some ⟨b0, o0, none⟩) l.length c0] 153 :: A :: Blk b1 [.pointer (some ⟨b, 0, none⟩)] 78 :: F)
  refine WP.val rfl rfl rfl (Val.assign rfl rfl) ?_
  refine WP.nil ?_
  refine Out.next ?_
  refine WPc.seq ?_
  refine WPc.seq ?_
  rcases hfg with ⟨hfg, rfl⟩ | ⟨k, bb, oo, cc, hk, hfg, he, rfl⟩
  · skip
    refine WPc.region ?_
    refine WP.val rfl rfl rfl (Val.fieldAddr (j := 0) rfl Ty.fo78_0 rfl rfl) ?_
    refine WP.val rfl rfl rfl (Val.load rfl Ty.sc76 rfl (fun w h => h.cell 2 rfl rfl)) ?_
    refine WP.val rfl rfl rfl (Val.nilCheck rfl rfl) ?_
    refine WP.val rfl rfl rfl (Val.fieldAddr (j := 3) rfl Ty.fo153_2 rfl rfl) ?_
    refine WP.val rfl rfl rfl (Val.load rfl Ty.sc151 rfl (fun w h => h.cell 0 rfl rfl)) ?_
    refine WP.val rfl rfl rfl (Val.len rfl Ty.sl151 rfl) ?_
    refine WP.val rfl rfl rfl (Val.move rfl rfl) ?_
    refine WP.nil ?_
    refine Out.next ?_
    refine WPc.block ?_
    refine WPc.perm pl1 ?_
    refine WPc.perm pl1 ?_
    refine WPc.perm pl2 ?_
    refine WPc.loop (ι := Nat) (fun i => i ≤ l.length) (fun i => [(2, .pointer (some ⟨b1, 0, none⟩)), (5, .pointer none), (16, .int .i64 (((l.length : Nat) : Int))), (17, .int .i64 (((i : Nat) : Int)))]) (fun i => Blk b1 [.pointer (some ⟨b, 0, none⟩)] 78 :: Blk b [.slice ka kn kc, .int .i64 (md.m), .int .i64 (md.s), .slice (some ⟨b0, o0, none⟩) l.length c0] 153 :: A :: F) (fun i => l.length - i) 0 (Nat.zero_le _) ((Sub.cons rfl (Sub.cons rfl (Sub.cons rfl (Sub.cons rfl Sub.nil))))) (fun _ h => h) ?_
    rintro i hi
    show WPc _ _ _ _ _ [(2, .pointer (some ⟨b1, 0, none⟩)), (5, .pointer none), (16, .int .i64 (((l.length : Nat) : Int))), (17, .int .i64 (((i : Nat) : Int)))] (Blk b1 [.pointer (some ⟨b, 0, none⟩)] 78 :: Blk b [.slice ka kn kc, .int .i64 (md.m), .int .i64 (md.s), .slice (some ⟨b0, o0, none⟩) l.length c0] 153 :: A :: F)
    replace hi : i ≤ l.length := hi
    refine WPc.seq ?_
    refine WPc.region ?_
    refine WP.val rfl rfl rfl (Val.lss rfl rfl rfl) ?_
    refine WP.nil ?_
    refine Out.next ?_
    refine WPc.seq ?_
    refine WPc.ifP rfl (fun h1 => ?_) (fun h1 => ?_)
    · skip
      have h1 : (((i : Nat) : Int) < ((l.length : Nat) : Int)) := h1
      refine WPc.skip ?_
      refine Out.next ?_
      refine WPc.seq ?_
      refine WPc.block ?_
      refine WPc.seq ?_
      refine WPc.region ?_
      refine WP.val rfl rfl rfl (Val.move rfl rfl) ?_
      refine WP.val rfl rfl rfl (Val.assign rfl rfl) ?_
      refine WP.nil ?_
      refine Out.next ?_
      refine WPc.seq ?_
      refine WPc.region ?_
      refine WP.val rfl rfl rfl (Val.move rfl rfl) ?_
      refine WP.val rfl rfl rfl (Val.fieldAddr (j := 0) rfl Ty.fo78_0 rfl rfl) ?_
      refine WP.val rfl rfl rfl (Val.load rfl Ty.sc76 rfl (fun w h => h.cell 0 rfl rfl)) ?_
      refine WP.val rfl rfl rfl (Val.nilCheck rfl rfl) ?_
      refine WP.val rfl rfl rfl (Val.fieldAddr (j := 3) rfl Ty.fo153_2 rfl rfl) ?_
      refine WP.val rfl rfl rfl (Val.load rfl Ty.sc151 rfl (fun w h => h.cell 1 rfl rfl)) ?_
      refine WP.val rfl rfl rfl (Val.move rfl rfl) ?_
      refine WP.val rfl rfl rfl (Val.indexAddr (j := i) (q := o0 + i * 4) rfl Ty.sl151 rfl rfl (by omega) (by omega) (by omega)) ?_
      refine WP.val rfl rfl rfl (Val.nilEqP rfl pz149 rfl rfl) ?_
      refine WP.nil ?_
      refine Out.next ?_
      refine WPc.condF rfl rfl ?_
      refine WPc.skip ?_
      refine Out.block ?_
      refine Out.next ?_
      refine WPc.region ?_
      refine WP.val rfl rfl rfl (Val.add (z := ((i + 1 : Nat) : Int)) rfl rfl rfl ((w64 (by omega) (by omega)).trans (by omega))) ?_
      refine WP.val rfl rfl rfl (Val.move rfl rfl) ?_
      refine WP.nil ?_
      refine Out.again (i + 1) ?_ ?_ ?_ ?_
      · exact (by first | omega | (dsimp only; omega))
      · first | omega | (dsimp only; omega)
      · exact (Sub.cons rfl (Sub.cons rfl (Sub.cons rfl (Sub.cons rfl Sub.nil))))
      · exact (fun _ h => h)
    · skip
      have h1 : ¬ (((i : Nat) : Int) < ((l.length : Nat) : Int)) := h1
      refine WPc.exit ?_
      refine Out.then_exit ?_
      refine Out.then_exit ?_
      refine Out.block_exit ?_
      refine Out.next ?_
      refine WPc.seq ?_
      refine WPc.region ?_
      refine WP.val rfl rfl rfl (Val.assign rfl rfl) ?_
      refine WP.nil ?_
      refine Out.next ?_
      refine WPc.ret ?_
      refine Out.drop ?_
      exact Out.ret1 (L' := _) Try.results37 rfl ⟨congrArg (Value.int .i64) (show _ = fg (l.map (·.1)) at_ l.length by rw [hfg]), rfl⟩ (fun _ h => h)
  · skip
    simp only [Value.slice.injEq, Option.some.injEq, Addr.mk.injEq, and_true, true_and] at he
    obtain ⟨⟨rfl, rfl⟩, rfl⟩ := he
    refine WPc.region ?_
    refine WP.val rfl rfl rfl (Val.fieldAddr (j := 0) rfl Ty.fo78_0 rfl rfl) ?_
    refine WP.val rfl rfl rfl (Val.load rfl Ty.sc76 rfl (fun w h => h.cell 2 rfl rfl)) ?_
    refine WP.val rfl rfl rfl (Val.nilCheck rfl rfl) ?_
    refine WP.val rfl rfl rfl (Val.fieldAddr (j := 3) rfl Ty.fo153_2 rfl rfl) ?_
    refine WP.val rfl rfl rfl (Val.load rfl Ty.sc151 rfl (fun w h => h.cell 0 rfl rfl)) ?_
    refine WP.val rfl rfl rfl (Val.len rfl Ty.sl151 rfl) ?_
    refine WP.val rfl rfl rfl (Val.move rfl rfl) ?_
    refine WP.nil ?_
    refine Out.next ?_
    refine WPc.block ?_
    refine WPc.perm pl1 ?_
    refine WPc.perm pl1 ?_
    refine WPc.perm pl2 ?_
    refine WPc.loop (ι := Nat) (fun i => i ≤ k) (fun i => [(2, .pointer (some ⟨b1, 0, none⟩)), (5, .pointer (some ⟨b0, o0 + k * 4, none⟩)), (16, .int .i64 (((l.length : Nat) : Int))), (17, .int .i64 (((i : Nat) : Int)))]) (fun i => Blk b1 [.pointer (some ⟨b, 0, none⟩)] 78 :: Blk b [.slice ka kn kc, .int .i64 (md.m), .int .i64 (md.s), .slice (some ⟨b0, o0, none⟩) l.length c0] 153 :: A :: F) (fun i => l.length - i) 0 (Nat.zero_le _) ((Sub.cons rfl (Sub.cons rfl (Sub.cons rfl (Sub.cons rfl Sub.nil))))) (fun _ h => h) ?_
    rintro i hi
    show WPc _ _ _ _ _ [(2, .pointer (some ⟨b1, 0, none⟩)), (5, .pointer (some ⟨b0, o0 + k * 4, none⟩)), (16, .int .i64 (((l.length : Nat) : Int))), (17, .int .i64 (((i : Nat) : Int)))] (Blk b1 [.pointer (some ⟨b, 0, none⟩)] 78 :: Blk b [.slice ka kn kc, .int .i64 (md.m), .int .i64 (md.s), .slice (some ⟨b0, o0, none⟩) l.length c0] 153 :: A :: F)
    replace hi : i ≤ k := hi
    refine WPc.seq ?_
    refine WPc.region ?_
    refine WP.val rfl rfl rfl (Val.lss rfl rfl rfl) ?_
    refine WP.nil ?_
    refine Out.next ?_
    refine WPc.seq ?_
    refine WPc.ifP rfl (fun h2 => ?_) (fun h2 => ?_)
    · skip
      have h2 : (((i : Nat) : Int) < ((l.length : Nat) : Int)) := h2
      refine WPc.skip ?_
      refine Out.next ?_
      refine WPc.seq ?_
      refine WPc.block ?_
      refine WPc.seq ?_
      refine WPc.region ?_
      refine WP.val rfl rfl rfl (Val.move rfl rfl) ?_
      refine WP.val rfl rfl rfl (Val.assign rfl rfl) ?_
      refine WP.nil ?_
      refine Out.next ?_
      refine WPc.seq ?_
      refine WPc.region ?_
      refine WP.val rfl rfl rfl (Val.move rfl rfl) ?_
      refine WP.val rfl rfl rfl (Val.fieldAddr (j := 0) rfl Ty.fo78_0 rfl rfl) ?_
      refine WP.val rfl rfl rfl (Val.load rfl Ty.sc76 rfl (fun w h => h.cell 0 rfl rfl)) ?_
      refine WP.val rfl rfl rfl (Val.nilCheck rfl rfl) ?_
      refine WP.val rfl rfl rfl (Val.fieldAddr (j := 3) rfl Ty.fo153_2 rfl rfl) ?_
      refine WP.val rfl rfl rfl (Val.load rfl Ty.sc151 rfl (fun w h => h.cell 1 rfl rfl)) ?_
      refine WP.val rfl rfl rfl (Val.move rfl rfl) ?_
      refine WP.val rfl rfl rfl (Val.indexAddr (j := i) (q := o0 + i * 4) rfl Ty.sl151 rfl rfl (by omega) (by omega) (by omega)) ?_
      refine WP.val rfl rfl rfl (Val.eqOffB rfl pz149 pe149 rfl rfl) ?_
      refine WP.nil ?_
      refine Out.next ?_
      refine WPc.ifP rfl (fun h3 => ?_) (fun h3 => ?_)
      · skip
        have h3 : (o0 + k * 4 = o0 + i * 4) := h3
        refine WPc.seq ?_
        refine WPc.region ?_
        refine WP.val rfl rfl rfl (Val.move rfl rfl) ?_
        refine WP.val rfl rfl rfl (Val.assign rfl rfl) ?_
        refine WP.nil ?_
        refine Out.next ?_
        refine WPc.ret ?_
        refine Out.block_ret ?_
        refine Out.then_ret ?_
        refine Out.then_ret ?_
        refine Out.block_ret ?_
        refine Out.then_ret ?_
        refine Out.drop ?_
        exact Out.ret1 (L' := _) Try.results37 rfl ⟨congrArg (Value.int .i64) (show _ = fg (l.map (·.1)) at_ l.length by rw [hfg]; omega), rfl⟩ (fun _ h => h)
      · skip
        have h3 : ¬ (o0 + k * 4 = o0 + i * 4) := h3
        refine WPc.skip ?_
        refine Out.block ?_
        refine Out.next ?_
        refine WPc.region ?_
        refine WP.val rfl rfl rfl (Val.add (z := ((i + 1 : Nat) : Int)) rfl rfl rfl ((w64 (by omega) (by omega)).trans (by omega))) ?_
        refine WP.val rfl rfl rfl (Val.move rfl rfl) ?_
        refine WP.nil ?_
        refine Out.again (i + 1) ?_ ?_ ?_ ?_
        · exact (by first | omega | (dsimp only; omega))
        · first | omega | (dsimp only; omega)
        · exact (Sub.cons rfl (Sub.cons rfl (Sub.cons rfl (Sub.cons rfl Sub.nil))))
        · exact (fun _ h => h)
    · skip
      have h2 : ¬ (((i : Nat) : Int) < ((l.length : Nat) : Int)) := h2
      exfalso; omega

theorem find_spec (A : HProp) (b : Nat) (ka : Option Addr) (kn kc : Nat) (md : Rv) (at_ : Int) (l : List GV) (hsm : Small (l.map (·.1))) (hin : ∀ p ∈ l, Rd A 2 Rv.cells p.2 p.1.revs) (va : Value) (hva : Rd A 4 GV.cells va l) : Does Try.prog 37 [.agg #[.pointer (some ⟨b, 0, none⟩)], .int .i64 (at_)] [Blk b [.slice ka kn kc, .int .i64 (md.m), .int .i64 (md.s), va] 153, A] (fun v L => v = .int .i64 (fg (l.map (·.1)) at_ l.length) ∧ L = [Blk b [.slice ka kn kc, .int .i64 md.m, .int .i64 md.s, va] 153, A]) := by
  rcases hva with ⟨b0, o0, c0, rfl, hr⟩ | ⟨rfl, a, c, rfl⟩
  · exact find_row A b ka kn kc md at_ l hsm hin b0 o0 c0 hr
  · exact find_nil A b ka kn kc md at_ a c

end Go.Proofs.Ythicijpjpijdjaa.Kq

