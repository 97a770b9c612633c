import Derived.Test.YthicijpjpijdjaaKn
namespace Go.Proofs.Ythicijpjpijdjaa.Ko
open Go.RowKit Go.Proofs.Ythicijpjpijdjaa Go.Proofs.Ythicijpjpijdjaa.Sl Go.Proofs.Ythicijpjpijdjaa.KyP Go.Proofs.Ythicijpjpijdjaa.Ka Go.Proofs.Ythicijpjpijdjaa.Kb Go.Proofs.Ythicijpjpijdjaa.Kc Go.Proofs.Ythicijpjpijdjaa.Kd Go.Proofs.Ythicijpjpijdjaa.Ke Go.Proofs.Ythicijpjpijdjaa.Kf Go.Proofs.Ythicijpjpijdjaa.Kg Go.Proofs.Ythicijpjpijdjaa.Kh Go.Proofs.Ythicijpjpijdjaa.Ki Go.Proofs.Ythicijpjpijdjaa.Kj Go.Proofs.Ythicijpjpijdjaa.Kk Go.Proofs.Ythicijpjpijdjaa.Kl Go.Proofs.Ythicijpjpijdjaa.Km Go.Proofs.Ythicijpjpijdjaa.Kn
set_option linter.unusedVariables false
set_option linter.unusedSimpArgs false
set_option linter.unusedSectionVars false


theorem Srcs.rdR {P : Program} {W : World} {L : List HProp} {α : Type} {A : HProp} {k k' b' : Nat} {tx e' : TypeId} {cf : α → List Value} {l : List α} {va : Value} (hk : slcE P tx = some (e', k', b')) (hcf : ∀ x, (cf x).length = k) (h1 : (flatOf cf l).all (·.oneCell') = true) (h : Rd A k cf va l) (i : Nat) (hi : L[i]? = some A) : Srcs P W L k tx va l.length (flatOf cf l) := by
  rcases h with ⟨b, o, c, rfl, hr⟩ | ⟨rfl, a, c, rfl⟩
  · exact Srcs.rd hk hcf h1 hr i hi
  · exact Srcs.z hk
theorem Rd.one {α : Type} {A : HProp} {k : Nat} {cf : α → List Value} {l : List α} {va : Value} (h : Rd A k cf va l) : va.oneCell' = true := by
  rcases h with ⟨b, o, c, rfl, hr⟩ | ⟨rfl, a, c, rfl⟩ <;> rfl
theorem Rd.slice {α : Type} {A : HProp} {k : Nat} {cf : α → List Value} {l : List α} {va : Value} (h : Rd A k cf va l) : ∃ a c, va = .slice a l.length c := by
  rcases h with ⟨b, o, c, rfl, hr⟩ | ⟨rfl, a, c, rfl⟩ <;> exact ⟨_, _, rfl⟩
theorem Rd.row {α : Type} {A : HProp} {k : Nat} {cf : α → List Value} {l : List α} {va : Value} (h : Rd A k cf va l) (hl : 0 < l.length) : ∃ b o c, va = .slice (some ⟨b, o, none⟩) l.length c ∧ ∀ w, Holds A w → ∀ i x, l[i]? = some x → w.rangeAt b (o + i * k) (cf x) := by
  rcases h with ⟨b, o, c, rfl, hr⟩ | ⟨rfl, a, c, rfl⟩
  · exact ⟨b, o, c, rfl, hr⟩
  · cases hl
set_option maxRecDepth 100000 in
set_option maxHeartbeats 1000000 in
theorem zzin_nil (A : HProp) (ka : Option Addr) (kn kc : Nat) (md : Rv) (a : Option Addr) (c : Nat) : Does Try.prog 62 [.slice ka kn kc, .agg #[.int .i64 (md.m), .int .i64 (md.s), .slice a 0 c]] [A] (fun v L => ∃ (b : Nat) (v2 : Value) (g2 : List GV), v = .pointer (some ⟨b, 0, none⟩) ∧ g2.map (·.1) = ([] : List GV).map (·.1) ∧ L = [Blk b [.slice ka kn kc, .int .i64 md.m, .int .i64 md.s, v2] 153, Own 155 4 v2 g2.length (flatOf GV.cells g2), Kds (GVPe 81) g2, A]) := by
  refine Does.enter 39 Try.func62 rfl rfl rfl fun W F => ?_
  show WPc _ _ _ _ _ [(0, .slice ka kn kc), (1, .agg #[.int .i64 (md.m), .int .i64 (md.s), .slice a 0 c])] (A :: F)
  refine WPc.seq ?_
  refine WPc.region ?_
  refine WP.eff rfl rfl rfl (Eff.box (C := [.int .i64 (md.m), .int .i64 (md.s), .slice a 0 c]) rfl rfl rfl) ?_
  rintro _ _ ⟨b1, rfl, rfl⟩
  refine WP.val rfl rfl rfl (Val.assign rfl rfl) ?_
  refine WP.nil ?_
  refine Out.next ?_
  refine WPc.seq ?_
  refine WPc.region ?_
  refine WP.val rfl rfl rfl (Val.move rfl rfl) ?_
  refine WP.val rfl rfl rfl (Val.fieldAddr (j := 0) rfl Ty.fo84_0 rfl rfl) ?_
  refine WP.val rfl rfl rfl (Val.loadAgg (cs := [.int .i64 (md.m), .int .i64 (md.s)]) rfl Ty.ag81 rfl rfl (fun w h => h.range 0 rfl rfl)) ?_
  refine WP.val rfl rfl rfl (Val.mk (cs := [.slice ka kn kc, .int .i64 (md.m), .int .i64 (md.s), .slice none 0 0]) rfl rfl (fun _ => by kernel_rfl)) ?_
  refine WP.eff rfl rfl rfl (Eff.box (C := [.slice ka kn kc, .int .i64 (md.m), .int .i64 (md.s), .slice none 0 0]) rfl rfl rfl) ?_
  rintro _ _ ⟨b2, rfl, rfl⟩
  refine WP.val rfl rfl rfl (Val.assign rfl rfl) ?_
  refine WP.nil ?_
  refine Out.next ?_
  refine WPc.seq ?_
  refine WPc.seq ?_
  refine WPc.conv (fun w h => Sat.kNil (R := GVPe 81) h) ?_
  refine WPc.conv (fun w h => h.ownNil (e := 155) (k := 4)) ?_
  show WPc _ _ _ _ _ _ (Own 155 4 (.slice none 0 0) 0 ([]) :: Kds (GVPe 81) [] :: Blk b2 [.slice ka kn kc, .int .i64 (md.m), .int .i64 (md.s), .slice none 0 0] 153 :: Blk b1 [.int .i64 (md.m), .int .i64 (md.s), .slice a 0 c] 84 :: A :: F)
  refine WPc.region ?_
  refine WP.val rfl rfl rfl (Val.fieldAddr (j := 2) rfl Ty.fo84_1 rfl rfl) ?_
  refine WP.val rfl rfl rfl (Val.load rfl Ty.sc82 rfl (fun w h => h.cell 3 rfl rfl)) ?_
  refine WP.val rfl rfl rfl (Val.len rfl Ty.sl82 rfl) ?_
  refine WP.val rfl rfl rfl (Val.move rfl rfl) ?_
  refine WP.nil ?_
  refine Out.next ?_
  refine WPc.block ?_
  refine WPc.perm pl3 ?_
  refine WPc.drop ?_
  refine WPc.loop (ι := Nat × Value × List GV) (fun ⟨i, v3, g2⟩ => i ≤ 0 ∧ g2.map (·.1) = (([] : List GV).take i).map (·.1)) (fun ⟨i, v3, g2⟩ => [(5, .pointer (some ⟨b2, 0, none⟩)), (14, .slice a 0 c), (15, .int .i64 0), (16, .int .i64 (((i : Nat) : Int)))]) (fun ⟨i, v3, g2⟩ => Own 155 4 v3 g2.length (flatOf GV.cells g2) :: Kds (GVPe 81) g2 :: Blk b2 [.slice ka kn kc, .int .i64 (md.m), .int .i64 (md.s), v3] 153 :: A :: F) (fun ⟨i, v3, g2⟩ => 0 - i) (0, .slice none 0 0, []) ⟨Nat.zero_le _, rfl⟩ ((Sub.cons rfl (Sub.cons rfl (Sub.cons rfl (Sub.cons rfl Sub.nil))))) (fun _ h => h) ?_
  rintro ⟨i, v3, g2⟩ ⟨hi, hg2⟩
  show WPc _ _ _ _ _ [(5, .pointer (some ⟨b2, 0, none⟩)), (14, .slice a 0 c), (15, .int .i64 0), (16, .int .i64 (((i : Nat) : Int)))] (Own 155 4 v3 g2.length (flatOf GV.cells g2) :: Kds (GVPe 81) g2 :: Blk b2 [.slice ka kn kc, .int .i64 (md.m), .int .i64 (md.s), v3] 153 :: A :: F)
  replace hi : i ≤ 0 := hi
  replace hg2 : g2.map (·.1) = (([] : List GV).take i).map (·.1) := hg2
  have hgn := congrArg List.length hg2
  rw [List.length_map, List.length_map, List.length_take] at hgn
  refine WPc.seq ?_
  refine WPc.region ?_
  refine WP.val rfl rfl rfl (Val.lss rfl rfl rfl) ?_
  refine WP.nil ?_
  refine Out.next ?_
  refine WPc.seq ?_
  refine WPc.ifP rfl (fun h1 => ?_) (fun h1 => ?_)
  · skip
    have h1 : (((i : Nat) : Int) < (0 : Int)) := h1
    exfalso; omega
  · skip
    have h1 : ¬ (((i : Nat) : Int) < (0 : Int)) := h1
    refine WPc.exit ?_
    refine Out.then_exit ?_
    refine Out.then_exit ?_
    refine Out.block_exit ?_
    refine Out.next ?_
    refine WPc.seq ?_
    refine WPc.region ?_
    refine WP.val rfl rfl rfl (Val.move rfl rfl) ?_
    refine WP.val rfl rfl rfl (Val.assign rfl rfl) ?_
    refine WP.nil ?_
    refine Out.next ?_
    refine WPc.ret ?_
    have hil : i = 0 := by omega
    rw [hil] at hg2
    refine Out.perm pl3 ?_
    refine Out.perm pl2 ?_
    refine Out.perm pl2 ?_
    refine Out.perm pl3 ?_
    exact Out.ret1 (L' := _) Try.results62 rfl ⟨b2, v3, g2, rfl, hg2, rfl⟩ (fun _ h => h)

set_option maxRecDepth 100000 in
set_option maxHeartbeats 1000000 in
theorem zzin_row (A : HProp) (ka : Option Addr) (kn kc : Nat) (md : Rv) (l : List GV) (hsm : Small (l.map (·.1))) (hin : ∀ p ∈ l, Rd A 2 Rv.cells p.2 p.1.revs) (b0 o0 c0 : Nat) (hr : ∀ w, Holds A w → ∀ i x, l[i]? = some x → w.rangeAt b0 (o0 + i * 4) (GV.cells x)) : Does Try.prog 62 [.slice ka kn kc, .agg #[.int .i64 (md.m), .int .i64 (md.s), .slice (some ⟨b0, o0, none⟩) l.length c0]] [A] (fun v L => ∃ (b : Nat) (v2 : Value) (g2 : List GV), v = .pointer (some ⟨b, 0, none⟩) ∧ g2.map (·.1) = l.map (·.1) ∧ L = [Blk b [.slice ka kn kc, .int .i64 md.m, .int .i64 md.s, v2] 153, Own 155 4 v2 g2.length (flatOf GV.cells g2), Kds (GVPe 81) g2, A]) := by
  refine Does.enter 39 Try.func62 rfl rfl rfl fun W F => ?_
  show WPc _ _ _ _ _ [(0, .slice ka kn kc), (1, .agg #[.int .i64 (md.m), .int .i64 (md.s), .slice (some ⟨b0, o0, none⟩) l.length c0])] (A :: F)
  refine WPc.seq ?_
  refine WPc.region ?_
  refine WP.eff rfl rfl rfl (Eff.box (C := [.int .i64 (md.m), .int .i64 (md.s), .slice (some ⟨b0, o0, none⟩) l.length c0]) rfl rfl rfl) ?_
  rintro _ _ ⟨b1, rfl, rfl⟩
  refine WP.val rfl rfl rfl (Val.assign rfl rfl) ?_
  refine WP.nil ?_
  refine Out.next ?_
  refine WPc.seq ?_
  refine WPc.region ?_
  refine WP.val rfl rfl rfl (Val.move rfl rfl) ?_
  refine WP.val rfl rfl rfl (Val.fieldAddr (j := 0) rfl Ty.fo84_0 rfl rfl) ?_
  refine WP.val rfl rfl rfl (Val.loadAgg (cs := [.int .i64 (md.m), .int .i64 (md.s)]) rfl Ty.ag81 rfl rfl (fun w h => h.range 0 rfl rfl)) ?_
  refine WP.val rfl rfl rfl (Val.mk (cs := [.slice ka kn kc, .int .i64 (md.m), .int .i64 (md.s), .slice none 0 0]) rfl rfl (fun _ => by kernel_rfl)) ?_
  refine WP.eff rfl rfl rfl (Eff.box (C := [.slice ka kn kc, .int .i64 (md.m), .int .i64 (md.s), .slice none 0 0]) rfl rfl rfl) ?_
  rintro _ _ ⟨b2, rfl, rfl⟩
  refine WP.val rfl rfl rfl (Val.assign rfl rfl) ?_
  refine WP.nil ?_
  refine Out.next ?_
  refine WPc.seq ?_
  refine WPc.seq ?_
  refine WPc.conv (fun w h => Sat.kNil (R := GVPe 81) h) ?_
  refine WPc.conv (fun w h => h.ownNil (e := 155) (k := 4)) ?_
  show WPc _ _ _ _ _ _ (Own 155 4 (.slice none 0 0) 0 ([]) :: Kds (GVPe 81) [] :: Blk b2 [.slice ka kn kc, .int .i64 (md.m), .int .i64 (md.s), .slice none 0 0] 153 :: Blk b1 [.int .i64 (md.m), .int .i64 (md.s), .slice (some ⟨b0, o0, none⟩) l.length c0] 84 :: A :: F)
  refine WPc.region ?_
  refine WP.val rfl rfl rfl (Val.fieldAddr (j := 2) rfl Ty.fo84_1 rfl rfl) ?_
  refine WP.val rfl rfl rfl (Val.load rfl Ty.sc82 rfl (fun w h => h.cell 3 rfl rfl)) ?_
  refine WP.val rfl rfl rfl (Val.len rfl Ty.sl82 rfl) ?_
  refine WP.val rfl rfl rfl (Val.move rfl rfl) ?_
  refine WP.nil ?_
  refine Out.next ?_
  refine WPc.block ?_
  refine WPc.perm pl3 ?_
  refine WPc.drop ?_
  refine WPc.loop (ι := Nat × Value × List GV) (fun ⟨i, v3, g2⟩ => i ≤ l.length ∧ g2.map (·.1) = (l.take i).map (·.1)) (fun ⟨i, v3, g2⟩ => [(5, .pointer (some ⟨b2, 0, none⟩)), (14, .slice (some ⟨b0, o0, none⟩) l.length c0), (15, .int .i64 (((l.length : Nat) : Int))), (16, .int .i64 (((i : Nat) : Int)))]) (fun ⟨i, v3, g2⟩ => Own 155 4 v3 g2.length (flatOf GV.cells g2) :: Kds (GVPe 81) g2 :: Blk b2 [.slice ka kn kc, .int .i64 (md.m), .int .i64 (md.s), v3] 153 :: A :: F) (fun ⟨i, v3, g2⟩ => l.length - i) (0, .slice none 0 0, []) ⟨Nat.zero_le _, rfl⟩ ((Sub.cons rfl (Sub.cons rfl (Sub.cons rfl (Sub.cons rfl Sub.nil))))) (fun _ h => h) ?_
  rintro ⟨i, v3, g2⟩ ⟨hi, hg2⟩
  show WPc _ _ _ _ _ [(5, .pointer (some ⟨b2, 0, none⟩)), (14, .slice (some ⟨b0, o0, none⟩) l.length c0), (15, .int .i64 (((l.length : Nat) : Int))), (16, .int .i64 (((i : Nat) : Int)))] (Own 155 4 v3 g2.length (flatOf GV.cells g2) :: Kds (GVPe 81) g2 :: Blk b2 [.slice ka kn kc, .int .i64 (md.m), .int .i64 (md.s), v3] 153 :: A :: F)
  replace hi : i ≤ l.length := hi
  replace hg2 : g2.map (·.1) = (l.take i).map (·.1) := hg2
  have hgn := congrArg List.length hg2
  rw [List.length_map, List.length_map, List.length_take] at hgn
  have hlen := hsm.len
  refine WPc.seq ?_
  refine WPc.region ?_
  refine WP.val rfl rfl rfl (Val.lss rfl rfl rfl) ?_
  refine WP.nil ?_
  refine Out.next ?_
  refine WPc.seq ?_
  refine WPc.ifP rfl (fun h1 => ?_) (fun h1 => ?_)
  · skip
    have h1 : (((i : Nat) : Int) < ((l.length : Nat) : Int)) := h1
    refine WPc.skip ?_
    refine Out.next ?_
    refine WPc.seq ?_
    refine WPc.block ?_
    refine WPc.seq ?_
    have hlt : i < l.length := by omega
    obtain ⟨x, hx⟩ : ∃ x, l[i]? = some x := ⟨_, List.getElem?_eq_getElem hlt⟩
    have hxm : x ∈ l := List.mem_iff_getElem?.2 ⟨_, hx⟩
    have onx := Rd.one (hin x hxm)
    have hsx := hsm.inn hxm
    refine WPc.region ?_
    refine WP.val rfl rfl rfl (Val.indexAddr (j := i) (q := o0 + i * 4) rfl Ty.sl82 rfl rfl (by omega) (by omega) (by omega)) ?_
    refine WP.val rfl rfl rfl (Val.loadAgg (cs := (GV.cells x)) rfl Ty.ag135 rfl (by rfl) (fun w h => hr w (h.at 3 rfl) i x hx)) ?_
    refine WP.eff rfl rfl rfl (Eff.alloc rfl Ty.z135) ?_
    rintro _ _ ⟨b3, rfl, rfl⟩
    refine WP.eff0 rfl rfl (Eff.storeAgg (cs := [.int .i64 (x.1.v), .int .i64 (x.1.c.m), .int .i64 (x.1.c.s), x.2]) (C' := [.int .i64 (x.1.v), .int .i64 (x.1.c.m), .int .i64 (x.1.c.s), x.2]) rfl Ty.ag135 rfl rfl rfl (by simp only [List.all_cons, List.all_nil, Bool.and_true, oc_int, oc_str, oc_bool, oc_ptr, oc_slice, oc_iface, oc_map, onx]) (by simp) rfl) ?_
    rintro _ _ rfl
    refine WP.nil ?_
    refine Out.next ?_
    refine WPD.start (Sat W [Blk b2 [.slice ka kn kc, .int .i64 (md.m), .int .i64 (md.s), v3] 153, Blk b3 [.int .i64 (x.1.v), .int .i64 (x.1.c.m), .int .i64 (x.1.c.s), x.2] 135]) Ty.mixed ?_
    refine WPD.takeM 0 rfl rfl rfl rfl (by kernel_rfl) (by kernel_rfl) (by kernel_rfl) (by kernel_rfl) (fun _ _ _ h => h) (fun w h => ((h.perm pl3)).dropEnd (L := [_, _])) (Val.move rfl rfl) ?_
    refine WPD.takeM 1 rfl rfl rfl rfl (by kernel_rfl) (by kernel_rfl) (by kernel_rfl) (by kernel_rfl) (fun _ _ _ h => h) (fun w h => ((h.perm pl3)).dropEnd (L := [_, _])) (Val.move rfl rfl) ?_
    refine WPD.takeM 2 rfl rfl rfl rfl (by kernel_rfl) (by kernel_rfl) (by kernel_rfl) (by kernel_rfl) (fun _ _ _ h => h) (fun w h => ((h.perm pl3)).dropEnd (L := [_, _])) (Val.nilCheck rfl rfl) ?_
    refine WPD.takeM 3 rfl rfl rfl rfl (by kernel_rfl) (by kernel_rfl) (by kernel_rfl) (by kernel_rfl) (fun _ _ _ h => h) (fun w h => ((h.perm pl3)).dropEnd (L := [_, _])) (Val.fieldAddr (j := 3) rfl Ty.fo153_2 rfl rfl) ?_
    refine WPD.take 4 rfl rfl rfl rfl (by kernel_rfl) (by kernel_rfl) (by kernel_rfl) (by kernel_rfl) (fun _ _ _ h => h) (by kernel_rfl) (fun w h => ((h.perm pl3)).dropEnd (L := [_, _])) (Val.load rfl Ty.sc151 rfl (fun w h => h.cell 0 rfl rfl)) ?_
    refine WPD.takeM 5 rfl rfl rfl rfl (by kernel_rfl) (by kernel_rfl) (by kernel_rfl) (by kernel_rfl) (fun _ _ _ h => h) (fun w h => ((h.perm pl3)).dropEnd (L := [_, _])) (Val.fieldAddr (j := 0) rfl Ty.fo135_0 rfl rfl) ?_
    refine WPD.take 6 rfl rfl rfl rfl (by kernel_rfl) (by kernel_rfl) (by kernel_rfl) (by kernel_rfl) (fun _ _ _ h => h) (by kernel_rfl) (fun w h => ((h.perm pl3)).dropEnd (L := [_, _])) (Val.load rfl Ty.sc2 rfl (fun w h => h.cell 1 rfl rfl)) ?_
    refine WPD.takeM 7 rfl rfl rfl rfl (by kernel_rfl) (by kernel_rfl) (by kernel_rfl) (by kernel_rfl) (fun _ _ _ h => h) (fun w h => ((h.perm pl3)).dropEnd (L := [_, _])) (Val.fieldAddr (j := 1) rfl Ty.fo135_1 rfl rfl) ?_
    refine WPD.take 8 rfl rfl rfl rfl (by kernel_rfl) (by kernel_rfl) (by kernel_rfl) (by kernel_rfl) (fun _ _ _ h => h) (by kernel_rfl) (fun w h => ((h.perm pl3)).dropEnd (L := [_, _])) (Val.loadAgg (cs := [.int .i64 (x.1.c.m), .int .i64 (x.1.c.s)]) rfl Ty.ag81 rfl rfl (fun w h => h.range 1 rfl rfl)) ?_
    refine WPD.takeM 9 rfl rfl rfl rfl (by kernel_rfl) (by kernel_rfl) (by kernel_rfl) (by kernel_rfl) (fun _ _ _ h => h) (fun w h => ((h.perm pl3)).dropEnd (L := [_, _])) (Val.fieldAddr (j := 3) rfl Ty.fo135_2 rfl rfl) ?_
    refine WPD.take 10 rfl rfl rfl rfl (by kernel_rfl) (by kernel_rfl) (by kernel_rfl) (by kernel_rfl) (fun _ _ _ h => h) (by kernel_rfl) (fun w h => ((h.perm pl3)).dropEnd (L := [_, _])) (Val.load rfl Ty.sc132 rfl (fun w h => h.cell 1 rfl rfl)) ?_
    refine WPD.conv (fun w h => h.ownNil (e := 81) (k := 2)) ?_
    show WPD _ _ _ _ _ _ _ _ _ (Own 81 2 (.slice none 0 0) 0 ([]) :: Blk b3 [.int .i64 (x.1.v), .int .i64 (x.1.c.m), .int .i64 (x.1.c.s), x.2] 135 :: Own 155 4 v3 g2.length (flatOf GV.cells g2) :: Kds (GVPe 81) g2 :: Blk b2 [.slice ka kn kc, .int .i64 (md.m), .int .i64 (md.s), v3] 153 :: A :: F)
    refine WPD.step 11 (by kernel_rfl) rfl rfl rfl rfl (Eff.append (m := x.1.revs.length) (n0 := 0) (news := flatOf Rv.cells x.1.revs) rfl Ty.sl132 Ty.z81 rfl rfl rfl (Srcs.rdR Ty.sl132 Rv.len (rv_one _) (hin x hxm) 5 rfl) (by omega) (by omega)) ?_
    rintro v4 _ ⟨onev4, rfl⟩
    refine ⟨(fun w h => (((h.perm pl1).perm pl4)).dropEnd (L := [_, _])), ?_⟩
    refine WPD.fact (fun w h => own_slice h) (fun hsl5 => ?_)
    obtain ⟨a5, k5, rfl⟩ := hsl5
    show WPD _ _ _ _ _ _ _ _ _ (Own 81 2 (.slice a5 (0 + x.1.revs.length) k5) (0 + x.1.revs.length) (([]) ++ (flatOf Rv.cells x.1.revs)) :: Blk b3 [.int .i64 (x.1.v), .int .i64 (x.1.c.m), .int .i64 (x.1.c.s), x.2] 135 :: Own 155 4 v3 g2.length (flatOf GV.cells g2) :: Kds (GVPe 81) g2 :: Blk b2 [.slice ka kn kc, .int .i64 (md.m), .int .i64 (md.s), v3] 153 :: A :: F)
    refine WPD.takeM 12 rfl rfl rfl rfl (by kernel_rfl) (by kernel_rfl) (by kernel_rfl) (by kernel_rfl) (fun _ _ _ h => h) (fun w h => (((h.perm pl1).perm pl4)).dropEnd (L := [_, _])) (Val.mk (cs := [.int .i64 (x.1.v), .int .i64 (x.1.c.m), .int .i64 (x.1.c.s), .slice a5 (0 + x.1.revs.length) k5]) rfl rfl (fun _ => by kernel_rfl)) ?_
    refine WPD.step 13 (by kernel_rfl) rfl rfl rfl rfl (Eff.mkSlice (C := [.int .i64 (x.1.v), .int .i64 (x.1.c.m), .int .i64 (x.1.c.s), .slice a5 (0 + x.1.revs.length) k5]) rfl Ty.sl151 rfl (fun _ => by kernel_rfl)) ?_
    rintro _ _ ⟨b6, rfl, rfl⟩
    refine ⟨(fun w h => (((h.perm pl2).perm pl5)).dropEnd (L := [_, _])), ?_⟩
    refine WPD.perm pl3 ?_
    refine WPD.stepC 14 (by kernel_rfl) rfl rfl rfl rfl (by kernel_rfl) (Eff.append (m := 1) (n0 := g2.length) (news := [.int .i64 (x.1.v), .int .i64 (x.1.c.m), .int .i64 (x.1.c.s), .slice a5 (0 + x.1.revs.length) k5]) rfl Ty.sl151 Ty.z155 rfl rfl rfl (.slice Ty.sl151 rfl rfl (fun w h => cells_range (h.range 1 rfl rfl))) (by omega) (by omega)) ?_
    rintro v7 _ ⟨onev7, rfl⟩
    refine ⟨(Sat W (Own 155 4 v7 (g2.length + 1) ((flatOf GV.cells g2) ++ ([.int .i64 (x.1.v), .int .i64 (x.1.c.m), .int .i64 (x.1.c.s), .slice a5 (0 + x.1.revs.length) k5])) :: Blk b6 [.int .i64 (x.1.v), .int .i64 (x.1.c.m), .int .i64 (x.1.c.s), .slice a5 (0 + x.1.revs.length) k5] 155 :: Own 81 2 (.slice a5 (0 + x.1.revs.length) k5) (0 + x.1.revs.length) (([]) ++ (flatOf Rv.cells x.1.revs)) :: Blk b3 [.int .i64 (x.1.v), .int .i64 (x.1.c.m), .int .i64 (x.1.c.s), x.2] 135 :: Kds (GVPe 81) g2 :: Blk b2 [.slice ka kn kc, .int .i64 (md.m), .int .i64 (md.s), v3] 153 :: A :: F)), (fun _ h => h), ?_⟩
    refine WPD.takeM 15 rfl rfl rfl rfl (by kernel_rfl) (by kernel_rfl) (by kernel_rfl) (by kernel_rfl) (fun _ _ _ h => h) (fun _ h => h) (Val.nilCheck rfl rfl) ?_
    refine WPD.takeM 16 rfl rfl rfl rfl (by kernel_rfl) (by kernel_rfl) (by kernel_rfl) (by kernel_rfl) (fun _ _ _ h => h) (fun _ h => h) (Val.fieldAddr (j := 3) rfl Ty.fo153_2 rfl rfl) ?_
    refine WPD.perm pl5 ?_
    refine WPD.stepC0 17 (by kernel_rfl) rfl rfl rfl (by kernel_rfl) (Eff.store rfl Ty.sc151 rfl rfl onev7 (by simp) st3) ?_
    rintro _ _ rfl
    refine ⟨(Sat W (Blk b2 [.slice ka kn kc, .int .i64 (md.m), .int .i64 (md.s), v7] 153 :: Own 155 4 v7 (g2.length + 1) ((flatOf GV.cells g2) ++ ([.int .i64 (x.1.v), .int .i64 (x.1.c.m), .int .i64 (x.1.c.s), .slice a5 (0 + x.1.revs.length) k5])) :: Blk b6 [.int .i64 (x.1.v), .int .i64 (x.1.c.m), .int .i64 (x.1.c.s), .slice a5 (0 + x.1.revs.length) k5] 155 :: Own 81 2 (.slice a5 (0 + x.1.revs.length) k5) (0 + x.1.revs.length) (([]) ++ (flatOf Rv.cells x.1.revs)) :: Blk b3 [.int .i64 (x.1.v), .int .i64 (x.1.c.m), .int .i64 (x.1.c.s), x.2] 135 :: Kds (GVPe 81) g2 :: A :: F)), (fun _ h => h), ?_⟩
    refine WPD.done (by kernel_rfl) ?_
    refine Out.block ?_
    refine Out.next ?_
    refine WPc.region ?_
    refine WP.val rfl rfl rfl (Val.add (z := ((i + 1 : Nat) : Int)) rfl rfl rfl ((w64 (by omega) (by omega)).trans (by omega))) ?_
    refine WP.val rfl rfl rfl (Val.move rfl rfl) ?_
    refine WP.nil ?_
    refine Out.perm pl2 ?_
    refine Out.drop ?_
    refine Out.perm pl3 ?_
    refine Out.drop ?_
    refine Out.perm pl4 ?_
    refine Out.perm pl1 ?_
    refine Out.perm pl4 ?_
    refine Out.perm pl4 ?_
    refine Out.perm pl4 ?_
    refine Out.again (i + 1, v7, g2 ++ [(x.1, .slice a5 x.1.revs.length k5)]) ?_ ?_ ?_ ?_
    · exact (by show i + 1 ≤ l.length ∧ (g2 ++ [(x.1, _)] : List GV).map (·.1) = (l.take (i + 1)).map (·.1); rw [take_more hx, List.map_append, List.map_append, hg2]; exact ⟨by omega, rfl⟩)
    · (dsimp only; omega)
    · exact (Sub.cons rfl (Sub.cons rfl (Sub.cons rfl (Sub.cons rfl Sub.nil))))
    · exact (fun w h => againE (p := (x.1, _)) (by simp only [Nat.zero_add, List.nil_append] at h; rw [flatOf_append, flatOf_one, List.length_append]; exact h))
  · skip
    have h1 : ¬ (((i : Nat) : Int) < ((l.length : Nat) : Int)) := h1
    refine WPc.exit ?_
    refine Out.then_exit ?_
    refine Out.then_exit ?_
    refine Out.block_exit ?_
    refine Out.next ?_
    refine WPc.seq ?_
    refine WPc.region ?_
    refine WP.val rfl rfl rfl (Val.move rfl rfl) ?_
    refine WP.val rfl rfl rfl (Val.assign rfl rfl) ?_
    refine WP.nil ?_
    refine Out.next ?_
    refine WPc.ret ?_
    have hil : i = l.length := by omega
    rw [hil, List.take_length] at hg2
    refine Out.perm pl3 ?_
    refine Out.perm pl2 ?_
    refine Out.perm pl2 ?_
    refine Out.perm pl3 ?_
    exact Out.ret1 (L' := _) Try.results62 rfl ⟨b2, v3, g2, rfl, hg2, rfl⟩ (fun _ h => h)

theorem zzin_spec (A : HProp) (ka : Option Addr) (kn kc : Nat) (md : Rv) (l : List GV) (hsm : Small (l.map (·.1))) (hin : ∀ p ∈ l, Rd A 2 Rv.cells p.2 p.1.revs) (va : Value) (hva : Rd A 4 GV.cells va l) : Does Try.prog 62 [.slice ka kn kc, .agg #[.int .i64 (md.m), .int .i64 (md.s), va]] [A] (fun v L => ∃ (b : Nat) (v2 : Value) (g2 : List GV), v = .pointer (some ⟨b, 0, none⟩) ∧ g2.map (·.1) = l.map (·.1) ∧ L = [Blk b [.slice ka kn kc, .int .i64 md.m, .int .i64 md.s, v2] 153, Own 155 4 v2 g2.length (flatOf GV.cells g2), Kds (GVPe 81) g2, A]) := by
  rcases hva with ⟨b0, o0, c0, rfl, hr⟩ | ⟨rfl, a, c, rfl⟩
  · exact zzin_row A ka kn kc md l hsm hin b0 o0 c0 hr
  · exact zzin_nil A ka kn kc md a c
set_option maxRecDepth 100000 in
set_option maxHeartbeats 2000000 in
theorem newkey_slice (A : HProp) (ka : Option Addr) (kn kc : Nat) (md : Rv) (l : List GV) (hsm : Small (l.map (·.1))) (hin : ∀ p ∈ l, Rd A 2 Rv.cells p.2 p.1.revs) (sa : Option Addr) (sc : Nat) (hva : Rd A 4 GV.cells (.slice sa l.length sc) l) : Does Try.prog 31 [.slice ka kn kc, .agg #[.int .i64 (md.m), .int .i64 (md.s), .slice sa l.length sc]] [A] (fun v L => ∃ (b : Nat) (v2 : Value) (g2 : List GV), v = .agg #[.pointer (some ⟨b, 0, none⟩)] ∧ g2.map (·.1) = l.map (·.1) ∧ L = [Blk b [.slice ka kn kc, .int .i64 md.m, .int .i64 md.s, v2] 153, Own 155 4 v2 g2.length (flatOf GV.cells g2), Kds (GVPe 81) g2, A]) := by
  refine Does.enter 9 Try.func31 rfl rfl rfl fun W F => ?_
  show WPc _ _ _ _ _ [(0, .slice ka kn kc), (1, .agg #[.int .i64 (md.m), .int .i64 (md.s), .slice sa l.length sc])] (A :: F)
  refine WPc.seq ?_
  refine WPc.region ?_
  refine WP.eff rfl rfl rfl (Eff.box (C := [.int .i64 (md.m), .int .i64 (md.s), .slice sa l.length sc]) rfl rfl rfl) ?_
  rintro _ _ ⟨b1, rfl, rfl⟩
  refine WP.eff rfl rfl rfl (Eff.alloc rfl Ty.z78) ?_
  rintro _ _ ⟨b2, rfl, rfl⟩
  refine WP.nil ?_
  refine Out.next ?_
  refine WPc.seq ?_
  refine WPc.region ?_
  refine WP.val rfl rfl rfl (Val.move rfl rfl) ?_
  refine WP.val rfl rfl rfl (Val.loadAgg (cs := [.int .i64 (md.m), .int .i64 (md.s), .slice sa l.length sc]) rfl Ty.ag84 rfl rfl (fun w h => h.range 1 rfl rfl)) ?_
  refine WP.perm pl2 ?_
  refine WP.eff rfl rfl rfl (Eff.call rfl rfl Try.call62 (zzin_spec A ka kn kc md l hsm hin (.slice sa l.length sc) hva)) ?_
  rintro _ _ ⟨_, ⟨b, v2, g2, rfl, hg2, rfl⟩, rfl⟩
  show WP _ _ _ _ _ _ _ (Blk b [.slice ka kn kc, .int .i64 (md.m), .int .i64 (md.s), v2] 153 :: Own 155 4 v2 g2.length (flatOf GV.cells g2) :: Kds (GVPe 81) g2 :: A :: Blk b2 [.pointer none] 78 :: Blk b1 [.int .i64 (md.m), .int .i64 (md.s), .slice sa l.length sc] 84 :: F)
  refine WP.val rfl rfl rfl (Val.mk (cs := [.pointer (some ⟨b, 0, none⟩)]) rfl rfl (fun _ => by kernel_rfl)) ?_
  refine WP.perm pl4 ?_
  refine WP.eff0 rfl rfl (Eff.storeAgg (cs := [.pointer (some ⟨b, 0, none⟩)]) (C' := [.pointer (some ⟨b, 0, none⟩)]) rfl Ty.ag78 rfl rfl rfl rfl (by simp) rfl) ?_
  rintro _ _ rfl
  refine WP.nil ?_
  refine Out.next ?_
  refine WPc.ret ?_
  refine Out.perm pl5 ?_
  refine Out.drop ?_
  exact Out.retRun (L' := _) (results_cell (cs := [.pointer (some ⟨b, 0, none⟩)]) Try.results31 Ty.ag78 rfl rfl (fun w h => h.range 0 rfl rfl)) ⟨b, v2, g2, rfl, hg2, rfl⟩ (fun w h => h.drop)
theorem newkey_spec (A : HProp) (ka : Option Addr) (kn kc : Nat) (md : Rv) (l : List GV) (hsm : Small (l.map (·.1))) (va : Value) (hva : RdG A va l) : Does Try.prog 31 [.slice ka kn kc, .agg #[.int .i64 md.m, .int .i64 md.s, va]] [A] (fun v L => ∃ (b : Nat) (v2 : Value) (g2 : List GV), v = .agg #[.pointer (some ⟨b, 0, none⟩)] ∧ g2.map (·.1) = l.map (·.1) ∧ L = [Blk b [.slice ka kn kc, .int .i64 md.m, .int .i64 md.s, v2] 153, Own 155 4 v2 g2.length (flatOf GV.cells g2), Kds (GVPe 81) g2, A]) := by
  obtain ⟨sa, sc, rfl⟩ := Rd.slice hva.rd
  exact newkey_slice A ka kn kc md l hsm hva.inn sa sc hva.rd
theorem dumpin_all (A : HProp) (md : Rv) (l : List GV) (hsm : Small (l.map (·.1))) (va : Value) (hva : RdG A va l) : Does Try.prog 32 [.agg #[.int .i64 md.m, .int .i64 md.s, va]] [A] (fun v L => ∃ (v2 : Value) (g2 : List GV), v = .agg #[.int .i64 md.m, .int .i64 md.s, v2] ∧ g2.map (·.1) = l.map (·.1) ∧ L = [Own 135 4 v2 g2.length (flatOf GV.cells g2), Kds (GVPe 81) g2, A]) := dumpin_spec A md l hsm hva.inn va hva.rd

end Go.Proofs.Ythicijpjpijdjaa.Ko
