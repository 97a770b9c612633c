import Derived.Test.YtibopfemknnocaaFlt7
namespace Go.Proofs.Ytibopfemknnocaa.Flt8
open Go.RowKit Go.Proofs.Ytibopfemknnocaa Go.Proofs.Ytibopfemknnocaa.Sl Go.Proofs.Ytibopfemknnocaa.KvRow Go.Proofs.Ytibopfemknnocaa.Flt Go.Proofs.Ytibopfemknnocaa.Flt2 Go.Proofs.Ytibopfemknnocaa.Flt3 Go.Proofs.Ytibopfemknnocaa.Flt4 Go.Proofs.Ytibopfemknnocaa.Flt5 Go.Proofs.Ytibopfemknnocaa.Flt6 Go.Proofs.Ytibopfemknnocaa.Flt7
set_option linter.unusedVariables false


theorem cmps_old {W0 w : World} {a : Option Addr} {n : Nat} (h : Fits.CmpsAt W0 a n) (ho : Holds (Old W0) w) : Fits.CmpsAt w a n := by
  intro i hi
  obtain ⟨ds, h1, b, o, rfl, hb, hc⟩ := h i hi
  exact ⟨ds, h1, b, o, rfl, Nat.lt_of_lt_of_le hb ho.old_size, fun j hj => (World.cell?_of_block (ho.old b hb)).trans (hc j hj)⟩
theorem fits8_spec (W0 : World) {v : List Value} {ca : Option Addr} {cn cc : Nat} {mm xm mc xc : Int} (hv : Fits.IsReq v ca cn cc mm xm mc xc) (h : Fits.CmpsAt W0 ca cn) (hn : cn ≤ 9223372036854775807) :
    Does Try.prog 9 [.agg v.toArray] [Old W0] (fun u L => ∃ b, u = .bool b ∧ L = [Old W0]) := by
  intro W F w hs
  refine (Fits.fits8 w v ca cn cc mm xm mc xc hv (cmps_old h hs.head) hn).mono ?_
  rintro e w' ⟨b, rfl, hb⟩
  exact ⟨_, _, rfl, ⟨b, rfl, rfl⟩, hs.kept hb⟩
theorem kvsIn_old {W0 : World} {a : Option Addr} {c : Nat} {l : List KV} (h : KvsAt W0 a l) : KvsIn (Old W0) (.slice a l.length c) l := by
  rcases h with rfl | ⟨b, o, rfl, hb, h⟩
  · exact .inr ⟨rfl, a, c, rfl⟩
  · refine .inl ⟨b, o, c, rfl, fun w ho i x hx j v hj => ?_⟩
    have := h i x hx j v hj
    exact (World.cell?_of_block (ho.old b hb)).trans this
theorem kvsIn_blk (b c : Nat) (l : List KV) : KvsIn (Blk b (KvRow.flat l) 34) (.slice (some ⟨b, 0, none⟩) l.length c) l := by
  refine .inl ⟨b, 0, c, rfl, fun w h i x hx => ?_⟩
  have := flat_range (xs := []) (sp := []) hx
  rw [List.append_nil] at this
  rw [Nat.zero_add]
  exact h.cell_range this
def KA : KV := ⟨⟨#[97]⟩, ⟨#[]⟩, 0, 2, 0, 0⟩
def KB : KV := ⟨⟨#[98]⟩, ⟨#[]⟩, 0, 3, 0, 0⟩
theorem keep_lit : keepl 3 0 0 0 [KA, KB] = [KB] := by simp [keepl, okLo, okHi, KA, KB]
theorem own_one {W w : World} {u : Value} {L : List HProp} (h : Sat W (Own 34 6 u (keepl 3 0 0 0 [KA, KB]).length (KvRow.flat (keepl 3 0 0 0 [KA, KB])) :: L) w) :
    ∃ q : Nat × Nat × List Value, Sat W (Pure (u = .slice (some ⟨q.1, 0, none⟩) 1 q.2.1) :: Blk q.1 (KvRow.flat [KB] ++ q.2.2) 34 :: L) w := by
  rw [keep_lit] at h
  rcases h.own with ⟨_, h1, _⟩ | ⟨b, cap, sp, rfl, h1, h2, h3, h4, h5⟩
  · cases h1
  · exact ⟨(b, cap, sp), Sat.pure_mk rfl h5⟩

theorem Val.lenIn {n : Nat} {l0 : List (Nat × Value)} {G : World → Prop} {o : Oper} {x : Operand} {A : HProp} {va : Value} {l : List KV} (h : KvsIn A va l) (ho : o.op = .call { callee := .builtin .len, args := #[x], argTypes := #[30] }) (hx : ev l0 x = some va) : Val Try.prog n l0 G o (.int .i64 ((l.length : Nat) : Int)) := by
  rcases h with ⟨b, o', c, rfl, -⟩ | ⟨rfl, a, c, rfl⟩
  · exact Val.len ho Ty.sl30 hx
  · exact Val.len ho Ty.sl30 hx
set_option maxRecDepth 100000 in
set_option maxHeartbeats 1000000 in
theorem law_spec (W0 : World) (l : List KV) (va : Value) (hva : KvsIn (Old W0) va l) (v0 : List Value) {ca : Option Addr} {cn cc : Nat} {mm xm mc xc : Int} (hv : Fits.IsReq v0 ca cn cc mm xm mc xc) (hcm : Fits.CmpsAt W0 ca cn) (hcn : cn ≤ 9223372036854775807) : Does Try.prog 5 [va, .agg (v0).toArray] [Old W0] (fun v L => v = .bool true ∧ L = [Old W0]) := by
  refine Does.enter 41 Try.func5 rfl rfl rfl fun W F => ?_
  show WPc _ _ _ _ _ [(0, va), (1, .agg (v0).toArray)] (Old W0 :: F)
  refine WPc.seq ?_
  refine WPc.region ?_
  refine WP.eff rfl rfl rfl (Eff.box (C := v0) rfl rfl rfl) ?_
  rintro _ _ ⟨b1, rfl, rfl⟩
  refine WP.val rfl rfl rfl (Val.assign rfl rfl) ?_
  refine WP.nil ?_
  refine Out.next ?_
  refine WPc.seq ?_
  refine WPc.seq ?_
  refine WPc.region ?_
  refine WP.val rfl rfl rfl (Val.move rfl rfl) ?_
  refine WP.perm pl1 ?_
  refine WP.eff rfl rfl rfl (Eff.call rfl rfl Try.call14 (fits13_spec (Old W0) l va hva)) ?_
  rintro _ _ ⟨_, ⟨bb1, rfl, rfl⟩, rfl⟩
  show WP _ _ _ _ _ _ _ (Old W0 :: Blk b1 v0 25 :: F)
  refine WP.val rfl rfl rfl (Val.not rfl rfl) ?_
  refine WP.val rfl rfl rfl (Val.move rfl rfl) ?_
  refine WP.splitB 9 rfl (fun h1 => ?_) (fun h1 => ?_)
  · skip
    refine WP.skip rfl rfl rfl rfl rfl rfl rfl ?_
    refine WP.skip rfl rfl rfl rfl rfl rfl rfl ?_
    refine WP.skip rfl rfl rfl rfl rfl rfl rfl ?_
    refine WP.val rfl rfl rfl (Val.pickT rfl rfl rfl) ?_
    refine WP.nil ?_
    refine Out.next ?_
    refine WPc.condT rfl rfl ?_
    refine WPc.seq ?_
    refine WPc.region ?_
    refine WP.val rfl rfl rfl (Val.assign rfl rfl) ?_
    refine WP.nil ?_
    refine Out.next ?_
    refine WPc.ret ?_
    refine Out.then_ret ?_
    refine Out.perm pl1 ?_
    refine Out.drop ?_
    exact Out.ret1 (L' := [Old W0]) Try.results5 rfl ⟨rfl, rfl⟩ (fun _ h => h)
  · skip
    refine WP.valG rfl rfl rfl rfl rfl rfl rfl (Val.loadAgg (cs := v0) rfl Ty.ag25 rfl (IsReq.len hv) (fun w h => (Holds.cell_range (h.at 1 rfl) (by simp)))) ?_
    refine WP.effG rfl rfl rfl rfl rfl rfl rfl (Eff.call rfl rfl Try.call9 (fits8_spec W0 hv hcm hcn)) ?_
    rintro _ _ ⟨_, ⟨bb2, rfl, rfl⟩, rfl⟩
    show WP _ _ _ _ _ _ _ (Old W0 :: Blk b1 v0 25 :: F)
    refine WP.valG rfl rfl rfl rfl rfl rfl rfl (Val.not rfl rfl) ?_
    refine WP.val rfl rfl rfl (Val.pickF rfl rfl rfl) ?_
    refine WP.nil ?_
    refine Out.next ?_
    refine WPc.cond rfl (fun h2 => ?_) (fun h2 => ?_)
    · skip
      have h2 : (!bb2) = true := h2
      refine WPc.seq ?_
      refine WPc.region ?_
      refine WP.val rfl rfl rfl (Val.assign rfl rfl) ?_
      refine WP.nil ?_
      refine Out.next ?_
      refine WPc.ret ?_
      refine Out.then_ret ?_
      refine Out.perm pl1 ?_
      refine Out.drop ?_
      exact Out.ret1 (L' := [Old W0]) Try.results5 rfl ⟨rfl, rfl⟩ (fun _ h => h)
    · skip
      have h2 : (!bb2) = false := h2
      refine WPc.skip ?_
      refine Out.next ?_
      refine WPc.seq ?_
      refine WPc.seq ?_
      refine WPc.region ?_
      refine WP.val rfl rfl rfl (Val.move rfl rfl) ?_
      refine WP.val rfl rfl rfl (Val.lenIn hva rfl rfl) ?_
      refine WP.val rfl rfl rfl (Val.gtr rfl rfl rfl) ?_
      refine WP.nil ?_
      refine Out.next ?_
      refine WPc.ifP rfl (fun h3 => ?_) (fun h3 => ?_)
      · skip
        have h3 : ((100 : Int) < ((l.length : Nat) : Int)) := h3
        refine WPc.seq ?_
        refine WPc.region ?_
        refine WP.val rfl rfl rfl (Val.assign rfl rfl) ?_
        refine WP.nil ?_
        refine Out.next ?_
        refine WPc.ret ?_
        refine Out.then_ret ?_
        refine Out.perm pl1 ?_
        refine Out.drop ?_
        exact Out.ret1 (L' := [Old W0]) Try.results5 rfl ⟨rfl, rfl⟩ (fun _ h => h)
      · skip
        have h3 : ¬ ((100 : Int) < ((l.length : Nat) : Int)) := h3
        refine WPc.skip ?_
        refine Out.next ?_
        refine WPc.seq ?_
        refine WPc.region ?_
        refine WP.val rfl rfl rfl (Val.mk (cs := [.string (⟨#[97]⟩), .string (⟨#[]⟩), .int .i64 0, .int .i64 2, .int .i64 0, .int .i64 0]) rfl rfl (fun _ => by kernel_rfl)) ?_
        refine WP.val rfl rfl rfl (Val.mk (cs := [.string (⟨#[98]⟩), .string (⟨#[]⟩), .int .i64 0, .int .i64 3, .int .i64 0, .int .i64 0]) rfl rfl (fun _ => by kernel_rfl)) ?_
        refine WP.eff rfl rfl rfl (Eff.mkSlice (C := [.string (⟨#[97]⟩), .string (⟨#[]⟩), .int .i64 0, .int .i64 2, .int .i64 0, .int .i64 0, .string (⟨#[98]⟩), .string (⟨#[]⟩), .int .i64 0, .int .i64 3, .int .i64 0, .int .i64 0]) rfl Ty.sl30 rfl (fun _ => by kernel_rfl)) ?_
        rintro _ _ ⟨b2, rfl, rfl⟩
        refine WP.val rfl rfl rfl (Val.mk (cs := [.int .i64 0, .string (⟨#[]⟩), .string (⟨#[]⟩), .string (⟨#[]⟩), .int .i64 0, .int .i64 0, .int .i64 0, .int .i64 0, .int .i64 0, .int .i64 3, .int .i64 0, .int .i64 0, .int .i64 0, .bool false, .bool false, .bool false, .bool false, .bool false, .slice none 0 0, .slice none 0 0, .slice none 0 0]) rfl rfl (fun _ => by kernel_rfl)) ?_
        refine WP.eff rfl rfl rfl (Eff.call rfl rfl Try.call15 (filtered_spec (Blk b2 (KvRow.flat [KA, KB]) 34) [KA, KB] (by simp) (.slice (some ⟨b2, 0, none⟩) 2 2) (kvsIn_blk b2 2 [KA, KB]) [.int .i64 0, .string ⟨#[]⟩, .string ⟨#[]⟩, .string ⟨#[]⟩, .int .i64 0, .int .i64 0, .int .i64 0, .int .i64 0, .int .i64 0, .int .i64 3, .int .i64 0, .int .i64 0, .int .i64 0, .bool false, .bool false, .bool false, .bool false, .bool false, .slice none 0 0, .slice none 0 0, .slice none 0 0] (ca := none) (cn := 0) (cc := 0) (mm := 3) (xm := 0) (mc := 0) (xc := 0) ⟨0, ⟨#[]⟩, ⟨#[]⟩, ⟨#[]⟩, 0, 0, 0, 0, 0, false, false, false, false, false, none, 0, 0, none, 0, 0, rfl⟩)) ?_
        rintro ua _ ⟨_, ⟨_, rfl, rfl⟩, rfl⟩
        show WP _ _ _ _ _ _ _ (Own 34 6 ua ((keepl 3 0 0 0 [KA, KB]).length) (KvRow.flat (keepl 3 0 0 0 [KA, KB])) :: Blk b2 (KvRow.flat [KA, KB]) 34 :: Old W0 :: Blk b1 v0 25 :: F)
        refine WP.open (fun w h => own_one h) ?_
        rintro ⟨g, cg, sg⟩
        refine WP.pure ?_
        rintro rfl
        show WP _ _ _ _ _ _ _ (Blk g (KvRow.flat [KB] ++ sg) 34 :: Blk b2 (KvRow.flat [KA, KB]) 34 :: Old W0 :: Blk b1 v0 25 :: F)
        refine WP.val rfl rfl rfl (Val.assign rfl rfl) ?_
        refine WP.nil ?_
        refine Out.next ?_
        refine WPc.seq ?_
        refine WPD.start (Sat W [Blk b1 v0 25, Blk g (KvRow.flat [KB] ++ sg) 34]) Ty.mixed ?_
        refine WPD.take 0 rfl rfl rfl rfl (by kernel_rfl) (by kernel_rfl) (by kernel_rfl) (fun _ _ _ h => h) (fun w h => ((h.perm pl3)).dropEnd (L := [_, _])) (Val.move rfl rfl) ?_
        refine WPD.take 1 rfl rfl rfl rfl (by kernel_rfl) (by kernel_rfl) (by kernel_rfl) (fun _ _ _ h => h) (fun w h => ((h.perm pl3)).dropEnd (L := [_, _])) (Val.loadAgg (cs := v0) rfl Ty.ag25 rfl (IsReq.len hv) (fun w h => (Holds.cell_range (h.at 0 rfl) (by simp)))) ?_
        refine WPD.take 3 rfl rfl rfl rfl (by kernel_rfl) (by kernel_rfl) (by kernel_rfl) (fun _ _ _ h => h) (fun w h => ((h.perm pl3)).dropEnd (L := [_, _])) (Val.move rfl rfl) ?_
        refine WPD.take 4 rfl rfl rfl rfl (by kernel_rfl) (by kernel_rfl) (by kernel_rfl) (fun _ _ _ h => h) (fun w h => ((h.perm pl3)).dropEnd (L := [_, _])) (Val.loadAgg (cs := v0) rfl Ty.ag25 rfl (IsReq.len hv) (fun w h => (Holds.cell_range (h.at 0 rfl) (by simp)))) ?_
        refine WPD.perm pl2 ?_
        refine WPD.step 2 (by kernel_rfl) rfl rfl rfl rfl (Eff.call rfl rfl Try.call15 (filtered_spec (Old W0) l (by omega) va hva v0 hv)) ?_
        rintro ub _ ⟨_, ⟨_, rfl, rfl⟩, rfl⟩
        refine ⟨(fun w h => (((h.perm pl2).perm pl4)).dropEnd (L := [_, _])), ?_⟩
        show WPD _ _ _ _ _ _ _ _ _ (Own 34 6 ub ((keepl mm xm mc xc l).length) (KvRow.flat (keepl mm xm mc xc l)) :: Old W0 :: Blk g (KvRow.flat [KB] ++ sg) 34 :: Blk b2 (KvRow.flat [KA, KB]) 34 :: Blk b1 v0 25 :: F)
        refine WPD.perm pl1 ?_
        refine WPD.step 5 (by kernel_rfl) rfl rfl rfl rfl (Eff.call rfl rfl Try.call17 (ref_spec (Old W0) l (by omega) v0 hv va hva)) ?_
        rintro uc _ ⟨_, ⟨_, rfl, rfl⟩, rfl⟩
        refine ⟨(fun w h => (((h.perm pl3).perm pl5)).dropEnd (L := [_, _])), ?_⟩
        show WPD _ _ _ _ _ _ _ _ _ (Own 34 6 uc ((keepl mm xm mc xc l).length) (KvRow.flat (keepl mm xm mc xc l)) :: Old W0 :: Own 34 6 ub ((keepl mm xm mc xc l).length) (KvRow.flat (keepl mm xm mc xc l)) :: Blk g (KvRow.flat [KB] ++ sg) 34 :: Blk b2 (KvRow.flat [KA, KB]) 34 :: Blk b1 v0 25 :: F)
        refine WPD.perm pl2 ?_
        refine WPD.step 6 (by kernel_rfl) rfl rfl rfl rfl (Eff.call rfl rfl Try.call16 (txnKVs_spec ub uc (keepl mm xm mc xc l) (Nat.le_trans (by unfold keepl; exact List.length_filter_le _ _) (show l.length ≤ 1000 by omega)))) ?_
        rintro _ _ ⟨_, ⟨rfl, rfl⟩, rfl⟩
        refine ⟨(fun w h => (((h.perm pl1).perm pl3)).dropEnd (L := [_, _])), ?_⟩
        show WPD _ _ _ _ _ _ _ _ _ (Old W0 :: Blk g (KvRow.flat [KB] ++ sg) 34 :: Blk b2 (KvRow.flat [KA, KB]) 34 :: Blk b1 v0 25 :: F)
        refine WPD.take 7 rfl rfl rfl rfl (by kernel_rfl) (by kernel_rfl) (by kernel_rfl) (fun _ _ _ h => h) (fun w h => (((h.perm pl1).perm pl3)).dropEnd (L := [_, _])) (Val.move rfl rfl) ?_
        refine WPD.takeG 8 rfl rfl rfl rfl rfl rfl rfl rfl (by kernel_rfl) (by kernel_rfl) (by kernel_rfl) (fun _ _ _ h => h) (fun w h => (((h.perm pl1).perm pl3)).dropEnd (L := [_, _])) (Val.move rfl rfl) ?_
        refine WPD.takeG 9 rfl rfl rfl rfl rfl rfl rfl rfl (by kernel_rfl) (by kernel_rfl) (by kernel_rfl) (fun _ _ _ h => h) (fun w h => (((h.perm pl1).perm pl3)).dropEnd (L := [_, _])) (Val.len rfl Ty.sl30 rfl) ?_
        refine WPD.takeG 10 rfl rfl rfl rfl rfl rfl rfl rfl (by kernel_rfl) (by kernel_rfl) (by kernel_rfl) (fun _ _ _ h => h) (fun w h => (((h.perm pl1).perm pl3)).dropEnd (L := [_, _])) (Val.eql rfl rfl rfl) ?_
        refine WPD.take 11 rfl rfl rfl rfl (by kernel_rfl) (by kernel_rfl) (by kernel_rfl) (fun _ _ _ h => h) (fun w h => (((h.perm pl1).perm pl3)).dropEnd (L := [_, _])) (Val.pickT rfl rfl rfl) ?_
        refine WPD.take 12 rfl rfl rfl rfl (by kernel_rfl) (by kernel_rfl) (by kernel_rfl) (fun _ _ _ h => h) (fun w h => (((h.perm pl1).perm pl3)).dropEnd (L := [_, _])) (Val.move rfl rfl) ?_
        refine WPD.split 34 rfl (fun h4 => ?_) (fun h4 => ?_)
        · skip
          have h4 : ((1 : Int) = (1 : Int)) := h4
          refine WPD.takeG 13 rfl rfl rfl rfl rfl rfl rfl rfl (by kernel_rfl) (by kernel_rfl) (by kernel_rfl) (fun _ _ _ h => h) (fun w h => (((h.perm pl1).perm pl3)).dropEnd (L := [_, _])) (Val.move rfl rfl) ?_
          refine WPD.takeG 14 rfl rfl rfl rfl rfl rfl rfl rfl (by kernel_rfl) (by kernel_rfl) (by kernel_rfl) (fun _ _ _ h => h) (fun w h => (((h.perm pl1).perm pl3)).dropEnd (L := [_, _])) (Val.indexAddr (j := 0) (q := 0) rfl Ty.sl30 rfl rfl (by omega) (by omega) (by omega)) ?_
          refine WPD.takeG 15 rfl rfl rfl rfl rfl rfl rfl rfl (by kernel_rfl) (by kernel_rfl) (by kernel_rfl) (fun _ _ _ h => h) (fun w h => (((h.perm pl1).perm pl3)).dropEnd (L := [_, _])) (Val.fieldAddr (j := 0) rfl Ty.fo34_0 rfl rfl) ?_
          refine WPD.takeG 16 rfl rfl rfl rfl rfl rfl rfl rfl (by kernel_rfl) (by kernel_rfl) (by kernel_rfl) (fun _ _ _ h => h) (fun w h => (((h.perm pl1).perm pl3)).dropEnd (L := [_, _])) (Val.load rfl Ty.sc9 rfl (fun w h => h.cell 1 rfl rfl)) ?_
          refine WPD.takeG 17 rfl rfl rfl rfl rfl rfl rfl rfl (by kernel_rfl) (by kernel_rfl) (by kernel_rfl) (fun _ _ _ h => h) (fun w h => (((h.perm pl1).perm pl3)).dropEnd (L := [_, _])) (Val.eqlS rfl rfl rfl) ?_
          refine WPD.take 18 rfl rfl rfl rfl (by kernel_rfl) (by kernel_rfl) (by kernel_rfl) (fun _ _ _ h => h) (fun w h => (((h.perm pl1).perm pl3)).dropEnd (L := [_, _])) (Val.pickT rfl rfl rfl) ?_
          refine WPD.take 19 rfl rfl rfl rfl (by kernel_rfl) (by kernel_rfl) (by kernel_rfl) (fun _ _ _ h => h) (fun w h => (((h.perm pl1).perm pl3)).dropEnd (L := [_, _])) (Val.assign rfl rfl) ?_
          refine WPD.done (by kernel_rfl) ?_
          refine Out.next ?_
          refine WPc.ret ?_
          refine Out.perm pl1 ?_
          refine Out.drop ?_
          refine Out.perm pl1 ?_
          refine Out.drop ?_
          refine Out.perm pl1 ?_
          refine Out.drop ?_
          exact Out.ret1 (L' := [Old W0]) Try.results5 rfl ⟨by rw [seq_eq]; simp [KB], rfl⟩ (fun _ h => h)
        · skip
          have h4 : ¬ ((1 : Int) = (1 : Int)) := h4
          exact absurd rfl h4

end Go.Proofs.Ytibopfemknnocaa.Flt8
