import Derived.Test.YthicijpjpijdjaaNe
namespace Go.Proofs.Ythicijpjpijdjaa.Ko
open Go.RowKit Go.Proofs.Ythicijpjpijdjaa Go.Proofs.Ythicijpjpijdjaa.Sl Go.Proofs.Ythicijpjpijdjaa.KyP Go.Proofs.Ythicijpjpijdjaa.Ka Go.Proofs.Ythicijpjpijdjaa.Kb Go.Proofs.Ythicijpjpijdjaa.Kc Go.Proofs.Ythicijpjpijdjaa.Kd Go.Proofs.Ythicijpjpijdjaa.Ke Go.Proofs.Ythicijpjpijdjaa.Kf Go.Proofs.Ythicijpjpijdjaa.Kg Go.Proofs.Ythicijpjpijdjaa.Kh Go.Proofs.Ythicijpjpijdjaa.Ki Go.Proofs.Ythicijpjpijdjaa.Kj Go.Proofs.Ythicijpjpijdjaa.Kk Go.Proofs.Ythicijpjpijdjaa.Kl Go.Proofs.Ythicijpjpijdjaa.Km Go.Proofs.Ythicijpjpijdjaa.Kn
set_option linter.unusedVariables false
set_option linter.unusedSimpArgs false
set_option linter.unusedSectionVars false


theorem Srcs.rdR {P : Program} {W : World} {L : List HProp} {α : Type} {A : HProp} {k k' b' : Nat} {tx e' : TypeId} {cf : α → List Value} {l : List α} {va : Value} (hk : slcE P tx = some (e', k', b')) (hcf : ∀ x, (cf x).length = k) (h1 : (flatOf cf l).all (·.oneCell') = true) (h : Rd A k cf va l) (i : Nat) (hi : L[i]? = some A) : Srcs P W L k tx va l.length (flatOf cf l) := by
 rcases h with ⟨b, o, c, rfl, hr⟩ | ⟨rfl, a, c, rfl⟩
 ·
  exact Srcs.rd hk hcf h1 hr i hi
 ·
  exact Srcs.z hk
theorem Rd.one {α : Type} {A : HProp} {k : Nat} {cf : α → List Value} {l : List α} {va : Value} (h : Rd A k cf va l) : va.oneCell' = true := by
 rcases h with ⟨b, o, c, rfl, hr⟩ | ⟨rfl, a, c, rfl⟩ <;> rfl
theorem Rd.slice {α : Type} {A : HProp} {k : Nat} {cf : α → List Value} {l : List α} {va : Value} (h : Rd A k cf va l) : ∃ a c, va = .slice a l.length c := by
 rcases h with ⟨b, o, c, rfl, hr⟩ | ⟨rfl, a, c, rfl⟩ <;> exact ⟨_, _, rfl⟩
theorem Rd.row {α : Type} {A : HProp} {k : Nat} {cf : α → List Value} {l : List α} {va : Value} (h : Rd A k cf va l) (hl : 0 < l.length) : ∃ b o c, va = .slice (some ⟨b, o, none⟩) l.length c ∧ ∀ w, Holds A w → ∀ i x, l[i]? = some x → w.rangeAt b (o + i * k) (cf x) := by
 rcases h with ⟨b, o, c, rfl, hr⟩ | ⟨rfl, a, c, rfl⟩
 ·
  exact ⟨b, o, c, rfl, hr⟩
 ·
  cases hl
set_option maxRecDepth 100000 in
set_option maxHeartbeats 1000000 in
theorem zzin_nil (A : HProp) (ka : Option Addr) (kn kc : Nat) (md : Rv) (a : Option Addr) (c : Nat) : Does Try.prog 62 [.slice ka kn kc, .agg #[.int .i64 (md.m), .int .i64 (md.s), .slice a 0 c]] [A] (fun v L => ∃ (b : Nat) (v2 : Value) (g2 : List GV), v = .pointer (some ⟨b, 0, none⟩) ∧ g2.map (·.1) = ([] : List GV).map (·.1) ∧ L = [Blk b [.slice ka kn kc, .int .i64 md.m, .int .i64 md.s, v2] 153, Own 155 4 v2 g2.length (flatOf GV.cells g2), Kds (GVPe 81) g2, A]) := by
 refine Does.enter 39 Try.func62 rfl rfl rfl fun W F => ?_
 show WPc _ _ _ _ _ [(0, .slice ka kn kc), (1, .agg #[.int .i64 (md.m), .int .i64 (md.s), .slice a 0 c])] (A :: F)
 refine WPc.sr ?_
 refine WP.eff rfl rfl rfl (Eff.box (C := [.int .i64 (md.m), .int .i64 (md.s), .slice a 0 c]) rfl rfl rfl) ?_
 rintro _ _ ⟨b1, rfl, rfl⟩
 refine WP.val rfl rfl rfl (Val.assign rfl rfl) ?_
 refine WP.nx ?_
 refine WPc.sr ?_
 refine WP.val rfl rfl rfl (Val.move rfl rfl) ?_
 refine WP.val rfl rfl rfl (Val.fieldAddr (j := 0) rfl Ty.fo84_0 rfl rfl) ?_
 refine WP.val rfl rfl rfl (Val.loadAgg (cs := [.int .i64 (md.m), .int .i64 (md.s)]) rfl Ty.ag81 rfl rfl (fun w h => h.range 0 rfl rfl)) ?_
 refine WP.val rfl rfl rfl (Val.mk (cs := [.slice ka kn kc, .int .i64 (md.m), .int .i64 (md.s), .slice none 0 0]) rfl rfl (fun _ => by kernel_rfl)) ?_
 refine WP.eff rfl rfl rfl (Eff.box (C := [.slice ka kn kc, .int .i64 (md.m), .int .i64 (md.s), .slice none 0 0]) rfl rfl rfl) ?_
 rintro _ _ ⟨b2, rfl, rfl⟩
 refine WP.val rfl rfl rfl (Val.assign rfl rfl) ?_
 refine WP.nx ?_
 refine WPc.seq ?_
 refine WPc.seq ?_
 refine WPc.conv (fun w h => Sat.kNil (R := GVPe 81) h) ?_
 refine WPc.conv (fun w h => h.ownNil (e := 155) (k := 4)) ?_
 show WPc _ _ _ _ _ _ (Own 155 4 (.slice none 0 0) 0 ([]) :: Kds (GVPe 81) [] :: Blk b2 [.slice ka kn kc, .int .i64 (md.m), .int .i64 (md.s), .slice none 0 0] 153 :: Blk b1 [.int .i64 (md.m), .int .i64 (md.s), .slice a 0 c] 84 :: _)
 refine WPc.region ?_
 refine WP.val rfl rfl rfl (Val.fieldAddr (j := 2) rfl Ty.fo84_1 rfl rfl) ?_
 refine WP.val rfl rfl rfl (Val.load rfl Ty.sc82 rfl (fun w h => h.cell 3 rfl rfl)) ?_
 refine WP.val rfl rfl rfl (Val.len rfl Ty.sl82 rfl) ?_
 refine WP.val rfl rfl rfl (Val.move rfl rfl) ?_
 refine WP.nx ?_
 refine WPc.block ?_
 refine WPc.perm pl3 ?_
 refine WPc.drop ?_
 refine WPc.loop (ι := Nat × Value × List GV) (fun ⟨i, v3, g2⟩ => i ≤ 0 ∧ g2.map (·.1) = (([] : List GV).take i).map (·.1)) (fun ⟨i, v3, g2⟩ => [(5, .pointer (some ⟨b2, 0, none⟩)), (14, .slice a 0 c), (15, .int .i64 0), (16, .int .i64 (((i : Nat) : Int)))]) (fun ⟨i, v3, g2⟩ => Own 155 4 v3 g2.length (flatOf GV.cells g2) :: Kds (GVPe 81) g2 :: Blk b2 [.slice ka kn kc, .int .i64 (md.m), .int .i64 (md.s), v3] 153 :: A :: F) (fun ⟨i, v3, g2⟩ => 0 - i) (0, .slice none 0 0, []) ⟨Nat.zero_le _, rfl⟩ ((Sub.cons rfl (Sub.cons rfl (Sub.cons rfl (Sub.cons rfl Sub.nil))))) (fun _ h => h) ?_
 rintro ⟨i, v3, g2⟩ ⟨hi, hg2⟩
 show WPc _ _ _ _ _ [(5, .pointer (some ⟨b2, 0, none⟩)), (14, .slice a 0 c), (15, .int .i64 0), (16, .int .i64 (((i : Nat) : Int)))] (Own 155 4 v3 g2.length (flatOf GV.cells g2) :: Kds (GVPe 81) g2 :: Blk b2 [.slice ka kn kc, .int .i64 (md.m), .int .i64 (md.s), v3] 153 :: _)
 replace hi : i ≤ 0 := hi
 replace hg2 : g2.map (·.1) = (([] : List GV).take i).map (·.1) := hg2
 have hgn := congrArg List.length hg2
 rw [List.length_map, List.length_map, List.length_take] at hgn
 refine WPc.sr ?_
 refine WP.val rfl rfl rfl (Val.lss rfl rfl rfl) ?_
 refine WP.nx ?_
 refine WPc.seq ?_
 refine WPc.ifP rfl (fun h1 => ?_) (fun h1 => ?_)
 ·
  have h1 : (((i : Nat) : Int) < (0 : Int)) := h1
  exfalso; omega
 ·
  have h1 : ¬ (((i : Nat) : Int) < (0 : Int)) := h1
  refine WPc.exit ?_
  refine Out.then_exit ?_
  refine Out.then_exit ?_
  refine Out.block_exit ?_
  refine Out.next ?_
  refine WPc.sr ?_
  refine WP.val rfl rfl rfl (Val.move rfl rfl) ?_
  refine WP.val rfl rfl rfl (Val.assign rfl rfl) ?_
  refine WP.nx ?_
  refine WPc.ret ?_
  have hil : i = 0 := by omega
  rw [hil] at hg2
  refine Out.perm pl3 ?_
  refine Out.perm pl2 ?_
  refine Out.perm pl2 ?_
  refine Out.perm pl3 ?_
  exact Out.ret1 (L' := _) Try.results62 rfl ⟨b2, v3, g2, rfl, hg2, rfl⟩ (fun _ h => h)

set_option maxRecDepth 100000 in
set_option maxHeartbeats 1000000 in
theorem zzin_row (A : HProp) (ka : Option Addr) (kn kc : Nat) (md : Rv) (l : List GV) (hsm : Small (l.map (·.1))) (hin : ∀ p ∈ l, Rd A 2 Rv.cells p.2 p.1.revs) (b0 o0 c0 : Nat) (hr : ∀ w, Holds A w → ∀ i x, l[i]? = some x → w.rangeAt b0 (o0 + i * 4) (GV.cells x)) : Does Try.prog 62 [.slice ka kn kc, .agg #[.int .i64 (md.m), .int .i64 (md.s), .slice (some ⟨b0, o0, none⟩) l.length c0]] [A] (fun v L => ∃ (b : Nat) (v2 : Value) (g2 : List GV), v = .pointer (some ⟨b, 0, none⟩) ∧ g2.map (·.1) = l.map (·.1) ∧ L = [Blk b [.slice ka kn kc, .int .i64 md.m, .int .i64 md.s, v2] 153, Own 155 4 v2 g2.length (flatOf GV.cells g2), Kds (GVPe 81) g2, A]) := by
 refine Does.enter 39 Try.func62 rfl rfl rfl fun W F => ?_
 show WPc _ _ _ _ _ [(0, .slice ka kn kc), (1, .agg #[.int .i64 (md.m), .int .i64 (md.s), .slice (some ⟨b0, o0, none⟩) l.length c0])] (A :: F)
 refine WPc.sr ?_
 refine WP.eff rfl rfl rfl (Eff.box (C := [.int .i64 (md.m), .int .i64 (md.s), .slice (some ⟨b0, o0, none⟩) l.length c0]) rfl rfl rfl) ?_
 rintro _ _ ⟨b1, rfl, rfl⟩
 refine WP.val rfl rfl rfl (Val.assign rfl rfl) ?_
 refine WP.nx ?_
 refine WPc.sr ?_
 refine WP.val rfl rfl rfl (Val.move rfl rfl) ?_
 refine WP.val rfl rfl rfl (Val.fieldAddr (j := 0) rfl Ty.fo84_0 rfl rfl) ?_
 refine WP.val rfl rfl rfl (Val.loadAgg (cs := [.int .i64 (md.m), .int .i64 (md.s)]) rfl Ty.ag81 rfl rfl (fun w h => h.range 0 rfl rfl)) ?_
 refine WP.val rfl rfl rfl (Val.mk (cs := [.slice ka kn kc, .int .i64 (md.m), .int .i64 (md.s), .slice none 0 0]) rfl rfl (fun _ => by kernel_rfl)) ?_
 refine WP.eff rfl rfl rfl (Eff.box (C := [.slice ka kn kc, .int .i64 (md.m), .int .i64 (md.s), .slice none 0 0]) rfl rfl rfl) ?_
 rintro _ _ ⟨b2, rfl, rfl⟩
 refine WP.val rfl rfl rfl (Val.assign rfl rfl) ?_
 refine WP.nx ?_
 refine WPc.seq ?_
 refine WPc.seq ?_
 refine WPc.conv (fun w h => Sat.kNil (R := GVPe 81) h) ?_
 refine WPc.conv (fun w h => h.ownNil (e := 155) (k := 4)) ?_
 show WPc _ _ _ _ _ _ (Own 155 4 (.slice none 0 0) 0 ([]) :: Kds (GVPe 81) [] :: Blk b2 [.slice ka kn kc, .int .i64 (md.m), .int .i64 (md.s), .slice none 0 0] 153 :: Blk b1 [.int .i64 (md.m), .int .i64 (md.s), .slice (some ⟨b0, o0, none⟩) l.length c0] 84 :: _)
 refine WPc.region ?_
 refine WP.val rfl rfl rfl (Val.fieldAddr (j := 2) rfl Ty.fo84_1 rfl rfl) ?_
 refine WP.val rfl rfl rfl (Val.load rfl Ty.sc82 rfl (fun w h => h.cell 3 rfl rfl)) ?_
 refine WP.val rfl rfl rfl (Val.len rfl Ty.sl82 rfl) ?_
 refine WP.val rfl rfl rfl (Val.move rfl rfl) ?_
 refine WP.nx ?_
 refine WPc.block ?_
 refine WPc.perm pl3 ?_
 refine WPc.drop ?_
 refine WPc.loop (ι := Nat × Value × List GV) (fun ⟨i, v3, g2⟩ => i ≤ l.length ∧ g2.map (·.1) = (l.take i).map (·.1)) (fun ⟨i, v3, g2⟩ => [(5, .pointer (some ⟨b2, 0, none⟩)), (14, .slice (some ⟨b0, o0, none⟩) l.length c0), (15, .int .i64 (((l.length : Nat) : Int))), (16, .int .i64 (((i : Nat) : Int)))]) (fun ⟨i, v3, g2⟩ => Own 155 4 v3 g2.length (flatOf GV.cells g2) :: Kds (GVPe 81) g2 :: Blk b2 [.slice ka kn kc, .int .i64 (md.m), .int .i64 (md.s), v3] 153 :: A :: F) (fun ⟨i, v3, g2⟩ => l.length - i) (0, .slice none 0 0, []) ⟨Nat.zero_le _, rfl⟩ ((Sub.cons rfl (Sub.cons rfl (Sub.cons rfl (Sub.cons rfl Sub.nil))))) (fun _ h => h) ?_
 rintro ⟨i, v3, g2⟩ ⟨hi, hg2⟩
 show WPc _ _ _ _ _ [(5, .pointer (some ⟨b2, 0, none⟩)), (14, .slice (some ⟨b0, o0, none⟩) l.length c0), (15, .int .i64 (((l.length : Nat) : Int))), (16, .int .i64 (((i : Nat) : Int)))] (Own 155 4 v3 g2.length (flatOf GV.cells g2) :: Kds (GVPe 81) g2 :: Blk b2 [.slice ka kn kc, .int .i64 (md.m), .int .i64 (md.s), v3] 153 :: _)
 replace hi : i ≤ l.length := hi
 replace hg2 : g2.map (·.1) = (l.take i).map (·.1) := hg2
 have hgn := congrArg List.length hg2
 rw [List.length_map, List.length_map, List.length_take] at hgn
 have hlen := hsm.len
 refine WPc.sr ?_
 refine WP.val rfl rfl rfl (Val.lss rfl rfl rfl) ?_
 refine WP.nx ?_
 refine WPc.seq ?_
 refine WPc.ifP rfl (fun h1 => ?_) (fun h1 => ?_)
 ·
  have h1 : (((i : Nat) : Int) < ((l.length : Nat) : Int)) := h1
  refine WPc.skip ?_
  refine Out.next ?_
  refine WPc.seq ?_
  refine WPc.block ?_
  refine WPc.seq ?_
  have hlt : i < l.length := by omega
  obtain ⟨x, hx⟩ : ∃ x, l[i]? = some x := ⟨_, List.getElem?_eq_getElem hlt⟩
  have hxm : x ∈ l := List.mem_iff_getElem?.2 ⟨_, hx⟩
  have onx := Rd.one (hin x hxm)
  have hsx := hsm.inn hxm
  refine WPc.region ?_
  refine WP.val rfl rfl rfl (Val.indexAddr (j := i) (q := o0 + i * 4) rfl Ty.sl82 rfl rfl (by omega) (by omega) (by omega)) ?_
  refine WP.val rfl rfl rfl (Val.loadAgg (cs := (GV.cells x)) rfl Ty.ag135 rfl (by rfl) (fun w h => hr w (h.at 3 rfl) i x hx)) ?_
  refine WP.eff rfl rfl rfl (Eff.alloc rfl Ty.z135) ?_
  rintro _ _ ⟨b3, rfl, rfl⟩
  refine WP.eff0 rfl rfl (Eff.storeAgg (cs := [.int .i64 (x.1.v), .int .i64 (x.1.c.m), .int .i64 (x.1.c.s), x.2]) (C' := [.int .i64 (x.1.v), .int .i64 (x.1.c.m), .int .i64 (x.1.c.s), x.2]) rfl Ty.ag135 rfl rfl rfl (by simp only [List.all_cons, List.all_nil, Bool.and_true, oc_int, oc_str, oc_bool, oc_ptr, oc_slice, oc_iface, oc_map, onx]) (by simp) rfl) ?_
  rintro _ _ rfl
  refine WP.nx ?_
  refine WPD.start (Sat W [Blk b2 [.slice ka kn kc, .int .i64 (md.m), .int .i64 (md.s), v3] 153, Blk b3 [.int .i64 (x.1.v), .int .i64 (x.1.c.m), .int .i64 (x.1.c.s), x.2] 135]) Ty.mixed ?_
  refine WPD.tS 0 rfl rfl rfl rfl (fun w h => ((h.perm pl3)).dropEnd (L := [_, _])) (Val.move rfl rfl) ?_
  refine WPD.tS 1 rfl rfl rfl rfl (fun w h => ((h.perm pl3)).dropEnd (L := [_, _])) (Val.move rfl rfl) ?_
  refine WPD.tS 2 rfl rfl rfl rfl (fun w h => ((h.perm pl3)).dropEnd (L := [_, _])) (Val.nilCheck rfl rfl) ?_
  refine WPD.tS 3 rfl rfl rfl rfl (fun w h => ((h.perm pl3)).dropEnd (L := [_, _])) (Val.fieldAddr (j := 3) rfl Ty.fo153_2 rfl rfl) ?_
  refine WPD.tL 4 rfl rfl rfl rfl (fun w h => ((h.perm pl3)).dropEnd (L := [_, _])) (Val.load rfl Ty.sc151 rfl (fun w h => h.cell 0 rfl rfl)) ?_
  refine WPD.tS 5 rfl rfl rfl rfl (fun w h => ((h.perm pl3)).dropEnd (L := [_, _])) (Val.fieldAddr (j := 0) rfl Ty.fo135_0 rfl rfl) ?_
  refine WPD.tL 6 rfl rfl rfl rfl (fun w h => ((h.perm pl3)).dropEnd (L := [_, _])) (Val.load rfl Ty.sc2 rfl (fun w h => h.cell 1 rfl rfl)) ?_
  refine WPD.tS 7 rfl rfl rfl rfl (fun w h => ((h.perm pl3)).dropEnd (L := [_, _])) (Val.fieldAddr (j := 1) rfl Ty.fo135_1 rfl rfl) ?_
  refine WPD.tL 8 rfl rfl rfl rfl (fun w h => ((h.perm pl3)).dropEnd (L := [_, _])) (Val.loadAgg (cs := [.int .i64 (x.1.c.m), .int .i64 (x.1.c.s)]) rfl Ty.ag81 rfl rfl (fun w h => h.range 1 rfl rfl)) ?_
  refine WPD.tS 9 rfl rfl rfl rfl (fun w h => ((h.perm pl3)).dropEnd (L := [_, _])) (Val.fieldAddr (j := 3) rfl Ty.fo135_2 rfl rfl) ?_
  refine WPD.tL 10 rfl rfl rfl rfl (fun w h => ((h.perm pl3)).dropEnd (L := [_, _])) (Val.load rfl Ty.sc132 rfl (fun w h => h.cell 1 rfl rfl)) ?_
  refine WPD.conv (fun w h => h.ownNil (e := 81) (k := 2)) ?_
  show WPD _ _ _ _ _ _ _ _ _ (Own 81 2 (.slice none 0 0) 0 ([]) :: Blk b3 [.int .i64 (x.1.v), .int .i64 (x.1.c.m), .int .i64 (x.1.c.s), x.2] 135 :: _)
  refine WPD.step 11 (by kernel_rfl) rfl rfl rfl rfl (Eff.append (m := x.1.revs.length) (n0 := 0) (news := flatOf Rv.cells x.1.revs) rfl Ty.sl132 Ty.z81 rfl rfl rfl (Srcs.rdR Ty.sl132 Rv.len (rv_one _) (hin x hxm) 5 rfl) (by omega) (by omega)) ?_
  rintro v4 _ ⟨onev4, rfl⟩
  refine ⟨(fun w h => (((h.perm pl1).perm pl4)).dropEnd (L := [_, _])), ?_⟩
  refine WPD.fact (fun w h => own_slice h) (fun hsl5 => ?_)
  obtain ⟨a5, k5, rfl⟩ := hsl5
  show WPD _ _ _ _ _ _ _ _ _ (Own 81 2 (.slice a5 (0 + x.1.revs.length) k5) (0 + x.1.revs.length) (([]) ++ (flatOf Rv.cells x.1.revs)) :: _)
  refine WPD.tS 12 rfl rfl rfl rfl (fun w h => (((h.perm pl1).perm pl4)).dropEnd (L := [_, _])) (Val.mk (cs := [.int .i64 (x.1.v), .int .i64 (x.1.c.m), .int .i64 (x.1.c.s), .slice a5 (0 + x.1.revs.length) k5]) rfl rfl (fun _ => by kernel_rfl)) ?_
  refine WPD.step 13 (by kernel_rfl) rfl rfl rfl rfl (Eff.mkSlice (C := [.int .i64 (x.1.v), .int .i64 (x.1.c.m), .int .i64 (x.1.c.s), .slice a5 (0 + x.1.revs.length) k5]) rfl Ty.sl151 rfl (fun _ => by kernel_rfl)) ?_
  rintro _ _ ⟨b6, rfl, rfl⟩
  refine ⟨(fun w h => (((h.perm pl2).perm pl5)).dropEnd (L := [_, _])), ?_⟩
  refine WPD.perm pl3 ?_
  refine WPD.stepC 14 (by kernel_rfl) rfl rfl rfl rfl (by kernel_rfl) (Eff.append (m := 1) (n0 := g2.length) (news := [.int .i64 (x.1.v), .int .i64 (x.1.c.m), .int .i64 (x.1.c.s), .slice a5 (0 + x.1.revs.length) k5]) rfl Ty.sl151 Ty.z155 rfl rfl rfl (.slice Ty.sl151 rfl rfl (fun w h => cells_range (h.range 1 rfl rfl))) (by omega) (by omega)) ?_
  rintro v7 _ ⟨onev7, rfl⟩
  refine ⟨_, (fun _ h => h), ?_⟩
  refine WPD.tM 15 rfl rfl rfl rfl (Val.nilCheck rfl rfl) ?_
  refine WPD.tM 16 rfl rfl rfl rfl (Val.fieldAddr (j := 3) rfl Ty.fo153_2 rfl rfl) ?_
  refine WPD.perm pl5 ?_
  refine WPD.stepC0 17 (by kernel_rfl) rfl rfl rfl (by kernel_rfl) (Eff.store rfl Ty.sc151 rfl rfl onev7 (by simp) st3) ?_
  rintro _ _ rfl
  refine ⟨_, (fun _ h => h), ?_⟩
  refine WPD.done (by kernel_rfl) ?_
  refine Out.block ?_
  refine Out.next ?_
  refine WPc.region ?_
  refine WP.val rfl rfl rfl (Val.add (z := ((i + 1 : Nat) : Int)) rfl rfl rfl ((w64 (by omega) (by omega)).trans (by omega))) ?_
  refine WP.val rfl rfl rfl (Val.move rfl rfl) ?_
  refine WP.nil ?_
  refine Out.perm pl2 ?_
  refine Out.drop ?_
  refine Out.perm pl3 ?_
  refine Out.drop ?_
  refine Out.perm pl4 ?_
  refine Out.perm pl1 ?_
  iterate 3 (refine Out.perm pl4 ?_)
  refine Out.again (i + 1, v7, g2 ++ [(x.1, .slice a5 x.1.revs.length k5)]) ?_ ?_ ?_ ?_
  ·
   exact (by show i + 1 ≤ l.length ∧ (g2 ++ [(x.1, _)] : List GV).map (·.1) = (l.take (i + 1)).map (·.1); rw [take_more hx, List.map_append, List.map_append, hg2]; exact ⟨by omega, rfl⟩)
  ·
   (dsimp only; omega)
  ·
   exact (Sub.cons rfl (Sub.cons rfl (Sub.cons rfl (Sub.cons rfl Sub.nil))))
  ·
   exact (fun w h => againE (p := (x.1, _)) (by simp only [Nat.zero_add, List.nil_append] at h; rw [flatOf_append, flatOf_one, List.length_append]; exact h))
 ·
  have h1 : ¬ (((i : Nat) : Int) < ((l.length : Nat) : Int)) := h1
  refine WPc.exit ?_
  refine Out.then_exit ?_
  refine Out.then_exit ?_
  refine Out.block_exit ?_
  refine Out.next ?_
  refine WPc.sr ?_
  refine WP.val rfl rfl rfl (Val.move rfl rfl) ?_
  refine WP.val rfl rfl rfl (Val.assign rfl rfl) ?_
  refine WP.nx ?_
  refine WPc.ret ?_
  have hil : i = l.length := by omega
  rw [hil, List.take_length] at hg2
  refine Out.perm pl3 ?_
  refine Out.perm pl2 ?_
  refine Out.perm pl2 ?_
  refine Out.perm pl3 ?_
  exact Out.ret1 (L' := _) Try.results62 rfl ⟨b2, v3, g2, rfl, hg2, rfl⟩ (fun _ h => h)

theorem zzin_spec (A : HProp) (ka : Option Addr) (kn kc : Nat) (md : Rv) (l : List GV) (hsm : Small (l.map (·.1))) (hin : ∀ p ∈ l, Rd A 2 Rv.cells p.2 p.1.revs) (va : Value) (hva : Rd A 4 GV.cells va l) : Does Try.prog 62 [.slice ka kn kc, .agg #[.int .i64 (md.m), .int .i64 (md.s), va]] [A] (fun v L => ∃ (b : Nat) (v2 : Value) (g2 : List GV), v = .pointer (some ⟨b, 0, none⟩) ∧ g2.map (·.1) = l.map (·.1) ∧ L = [Blk b [.slice ka kn kc, .int .i64 md.m, .int .i64 md.s, v2] 153, Own 155 4 v2 g2.length (flatOf GV.cells g2), Kds (GVPe 81) g2, A]) := by
 rcases hva with ⟨b0, o0, c0, rfl, hr⟩ | ⟨rfl, a, c, rfl⟩
 ·
  exact zzin_row A ka kn kc md l hsm hin b0 o0 c0 hr
 ·
  exact zzin_nil A ka kn kc md a c
set_option maxRecDepth 100000 in
set_option maxHeartbeats 2000000 in
theorem newkey_slice (A : HProp) (ka : Option Addr) (kn kc : Nat) (md : Rv) (l : List GV) (hsm : Small (l.map (·.1))) (hin : ∀ p ∈ l, Rd A 2 Rv.cells p.2 p.1.revs) (sa : Option Addr) (sc : Nat) (hva : Rd A 4 GV.cells (.slice sa l.length sc) l) : Does Try.prog 31 [.slice ka kn kc, .agg #[.int .i64 (md.m), .int .i64 (md.s), .slice sa l.length sc]] [A] (fun v L => ∃ (b : Nat) (v2 : Value) (g2 : List GV), v = .agg #[.pointer (some ⟨b, 0, none⟩)] ∧ g2.map (·.1) = l.map (·.1) ∧ L = [Blk b [.slice ka kn kc, .int .i64 md.m, .int .i64 md.s, v2] 153, Own 155 4 v2 g2.length (flatOf GV.cells g2), Kds (GVPe 81) g2, A]) := by
 refine Does.enter 9 Try.func31 rfl rfl rfl fun W F => ?_
 show WPc _ _ _ _ _ [(0, .slice ka kn kc), (1, .agg #[.int .i64 (md.m), .int .i64 (md.s), .slice sa l.length sc])] (A :: F)
 refine WPc.sr ?_
 refine WP.eff rfl rfl rfl (Eff.box (C := [.int .i64 (md.m), .int .i64 (md.s), .slice sa l.length sc]) rfl rfl rfl) ?_
 rintro _ _ ⟨b1, rfl, rfl⟩
 refine WP.eff rfl rfl rfl (Eff.alloc rfl Ty.z78) ?_
 rintro _ _ ⟨b2, rfl, rfl⟩
 refine WP.nx ?_
 refine WPc.sr ?_
 refine WP.val rfl rfl rfl (Val.move rfl rfl) ?_
 refine WP.val rfl rfl rfl (Val.loadAgg (cs := [.int .i64 (md.m), .int .i64 (md.s), .slice sa l.length sc]) rfl Ty.ag84 rfl rfl (fun w h => h.range 1 rfl rfl)) ?_
 refine WP.perm pl2 ?_
 refine WP.eff rfl rfl rfl (Eff.call rfl rfl Try.call62 (zzin_spec A ka kn kc md l hsm hin (.slice sa l.length sc) hva)) ?_
 rintro _ _ ⟨_, ⟨b, v2, g2, rfl, hg2, rfl⟩, rfl⟩
 show WP _ _ _ _ _ _ _ (Blk b [.slice ka kn kc, .int .i64 (md.m), .int .i64 (md.s), v2] 153 :: Own 155 4 v2 g2.length (flatOf GV.cells g2) :: Kds (GVPe 81) g2 :: _ :: Blk b2 [.pointer none] 78 :: Blk b1 [.int .i64 (md.m), .int .i64 (md.s), .slice sa l.length sc] 84 :: _)
 refine WP.val rfl rfl rfl (Val.mk (cs := [.pointer (some ⟨b, 0, none⟩)]) rfl rfl (fun _ => by kernel_rfl)) ?_
 refine WP.perm pl4 ?_
 refine WP.eff0 rfl rfl (Eff.storeAgg (cs := [.pointer (some ⟨b, 0, none⟩)]) (C' := [.pointer (some ⟨b, 0, none⟩)]) rfl Ty.ag78 rfl rfl rfl rfl (by simp) rfl) ?_
 rintro _ _ rfl
 refine WP.nx ?_
 refine WPc.ret ?_
 refine Out.perm pl5 ?_
 refine Out.drop ?_
 exact Out.retRun (L' := _) (results_cell (cs := [.pointer (some ⟨b, 0, none⟩)]) Try.results31 Ty.ag78 rfl rfl (fun w h => h.range 0 rfl rfl)) ⟨b, v2, g2, rfl, hg2, rfl⟩ (fun w h => h.drop)
theorem newkey_spec (A : HProp) (ka : Option Addr) (kn kc : Nat) (md : Rv) (l : List GV) (hsm : Small (l.map (·.1))) (va : Value) (hva : RdG A va l) : Does Try.prog 31 [.slice ka kn kc, .agg #[.int .i64 md.m, .int .i64 md.s, va]] [A] (fun v L => ∃ (b : Nat) (v2 : Value) (g2 : List GV), v = .agg #[.pointer (some ⟨b, 0, none⟩)] ∧ g2.map (·.1) = l.map (·.1) ∧ L = [Blk b [.slice ka kn kc, .int .i64 md.m, .int .i64 md.s, v2] 153, Own 155 4 v2 g2.length (flatOf GV.cells g2), Kds (GVPe 81) g2, A]) := by
 obtain ⟨sa, sc, rfl⟩ := Rd.slice hva.rd
 exact newkey_slice A ka kn kc md l hsm hva.inn sa sc hva.rd
theorem dumpin_all (A : HProp) (md : Rv) (l : List GV) (hsm : Small (l.map (·.1))) (va : Value) (hva : RdG A va l) : Does Try.prog 32 [.agg #[.int .i64 md.m, .int .i64 md.s, va]] [A] (fun v L => ∃ (v2 : Value) (g2 : List GV), v = .agg #[.int .i64 md.m, .int .i64 md.s, v2] ∧ g2.map (·.1) = l.map (·.1) ∧ L = [Own 135 4 v2 g2.length (flatOf GV.cells g2), Kds (GVPe 81) g2, A]) := dumpin_spec A md l hsm hva.inn va hva.rd

end Go.Proofs.Ythicijpjpijdjaa.Ko

namespace Go.Proofs.Ythicijpjpijdjaa.Kp
open Go.RowKit Go.Proofs.Ythicijpjpijdjaa Go.Proofs.Ythicijpjpijdjaa.Sl Go.Proofs.Ythicijpjpijdjaa.KyP Go.Proofs.Ythicijpjpijdjaa.Ka Go.Proofs.Ythicijpjpijdjaa.Kb Go.Proofs.Ythicijpjpijdjaa.Kc Go.Proofs.Ythicijpjpijdjaa.Kd Go.Proofs.Ythicijpjpijdjaa.Ke Go.Proofs.Ythicijpjpijdjaa.Kf Go.Proofs.Ythicijpjpijdjaa.Kg Go.Proofs.Ythicijpjpijdjaa.Kh Go.Proofs.Ythicijpjpijdjaa.Ki Go.Proofs.Ythicijpjpijdjaa.Kj Go.Proofs.Ythicijpjpijdjaa.Kk Go.Proofs.Ythicijpjpijdjaa.Kl Go.Proofs.Ythicijpjpijdjaa.Km Go.Proofs.Ythicijpjpijdjaa.Kn Go.Proofs.Ythicijpjpijdjaa.Ko
set_option linter.unusedVariables false
set_option linter.unusedSimpArgs false
set_option linter.unusedSectionVars false


theorem fg_step {gs : List Gn} {at_ : Int} {j : Nat} {g : Gn} (h : gs[j]? = some g) : fg gs at_ (j + 1) = if g.revs.length = 0 then fg gs at_ j else if j + 1 ≠ gs.length ∧ lstM g ≤ at_ then -1 else if fstM g ≤ at_ then (j : Int) else fg gs at_ j := by
 conv => lhs; unfold fg
 rw [h]
theorem fst_at {g : Gn} {x : Rv} (h : g.revs[0]? = some x) : fstM g = x.m := by unfold fstM; rw [h]
theorem lst_at {g : Gn} {x : Rv} (h : g.revs[g.revs.length - 1]? = some x) : lstM g = x.m := by unfold lstM; rw [h]
section
variable {P : Program} {n : Nat} {l : List (Nat × Value)} {G : World → Prop} {o : Oper}
def ptrZ (P : Program) (t : TypeId) : Bool := match P.underlying t with
 | some (.pointer e) => (match P.info? e with | some i => i.size != 0 | none => false)
 | _ => false
theorem ptrZ_of {t : TypeId} (h : ptrZ P t = true) : ∃ e i, P.underlying t = some (.pointer e) ∧ P.info? e = some i ∧ i.size ≠ 0 := by
 unfold ptrZ at h
 split at h
 ·
  rename_i e he
  split at h
  ·
   rename_i i hi
   exact ⟨e, i, he, hi, by simpa using h⟩
  ·
   cases h
 ·
  cases h
/-- pointers to two places of one block -/
theorem Val.eqOff {t u : TypeId} {x y : Operand} {b i j : Nat} (ho : o.op = .binOp .eql t x y u) (ht : ptrZ P t = true) (hx : ev l x = some (.pointer (some ⟨b, i, none⟩))) (hy : ev l y = some (.pointer (some ⟨b, j, none⟩))) (hne : i ≠ j) : Val P n l G o (.bool false) := fun a w hf hs => by
 obtain ⟨e, k, hp, hte, hsz⟩ := ptrZ_of ht
 have h : ∀ d : Nat, (Op.equalIn (d + 1) t (.pointer (some ⟨b, i, none⟩)) (.pointer (some ⟨b, j, none⟩))).run P w = .ok false w := fun d => by
  simp [Op.equalIn, run_underlying hp, sizeOf, typeInfo, hte, hsz, sameAddr, hne]
 simp [execOp, ho, hf.ev hx, hf.ev hy, eqGuard, binOp, Op.equal, Op.maxDepth, h 9999]
theorem Val.eqSame' {t u : TypeId} {x y : Operand} {p q : Addr} (ho : o.op = .binOp .eql t x y u) (ht : ptrE P t = true) (hx : ev l x = some (.pointer (some p))) (hy : ev l y = some (.pointer (some q))) (hpq : p = q) : Val P n l G o (.bool true) := by
 subst hpq; exact Val.eqSame ho ht hx hy
theorem Val.eqOffB {t u : TypeId} {x y : Operand} {b i j : Nat} (ho : o.op = .binOp .eql t x y u) (ht : ptrZ P t = true) (ht2 : ptrE P t = true) (hx : ev l x = some (.pointer (some ⟨b, i, none⟩))) (hy : ev l y = some (.pointer (some ⟨b, j, none⟩))) : Val P n l G o (.bool (decide (i = j))) := by
 by_cases h : i = j
 ·
  rw [decide_eq_true h]; exact Val.eqSame' ho ht2 hx hy (by rw [h])
 ·
  rw [decide_eq_false h]; exact Val.eqOff ho ht hx hy h
theorem Val.nilEqP {t u : TypeId} {x y : Operand} {p : Addr} (ho : o.op = .binOp .eql t x y u) (ht : ptrZ P t = true) (hx : ev l x = some (.pointer none)) (hy : ev l y = some (.pointer (some p))) : Val P n l G o (.bool false) := fun a w hf hs => by
 obtain ⟨e, k, hp, hte, hsz⟩ := ptrZ_of ht
 have h : ∀ d : Nat, (Op.equalIn (d + 1) t (.pointer none) (.pointer (some p))).run P w = .ok false w := fun d => by
  simp [Op.equalIn, run_underlying hp]
 simp [execOp, ho, hf.ev hx, hf.ev hy, eqGuard, binOp, Op.equal, Op.maxDepth, h 9999]
end
theorem pz149 : ptrZ Try.prog 149 = true := by kernel_rfl
theorem pe149 : ptrE Try.prog 149 = true := by kernel_rfl
set_option maxRecDepth 100000 in
set_option maxHeartbeats 2000000 in
theorem fgen_nil (A : HProp) (b : Nat) (ka : Option Addr) (kn kc : Nat) (md : Rv) (at_ : Int) (a : Option Addr) (c : Nat) : Does Try.prog 80 [.pointer (some ⟨b, 0, none⟩), .int .i64 (at_)] [Blk b [.slice ka kn kc, .int .i64 (md.m), .int .i64 (md.s), .slice a 0 c] 153, A] (fun v L => ((fg (([] : List GV).map (·.1)) at_ 0 = -1 ∧ v = .pointer none) ∨ (∃ k bb oo cc, k < 0 ∧ fg (([] : List GV).map (·.1)) at_ 0 = ((k : Nat) : Int) ∧ ((.slice a 0 c) : Value) = .slice (some ⟨bb, oo, none⟩) 0 cc ∧ v = .pointer (some ⟨bb, oo + k * 4, none⟩))) ∧ L = [Blk b [.slice ka kn kc, .int .i64 md.m, .int .i64 md.s, (.slice a 0 c)] 153, A]) := by
 refine Does.enter 67 Try.func80 rfl rfl rfl fun W F => ?_
 show WPc _ _ _ _ _ [(0, .pointer (some ⟨b, 0, none⟩)), (1, .int .i64 (at_))] (Blk b [.slice ka kn kc, .int .i64 (md.m), .int .i64 (md.s), .slice a 0 c] 153 :: A :: F)
 refine WPc.sr ?_
 refine WP.val rfl rfl rfl (Val.assign rfl rfl) ?_
 refine WP.nx ?_
 refine WPc.sr ?_
 refine WP.val rfl rfl rfl (Val.move rfl rfl) ?_
 refine WP.val rfl rfl rfl (Val.nilCheck rfl rfl) ?_
 refine WP.val rfl rfl rfl (Val.fieldAddr (j := 3) rfl Ty.fo153_2 rfl rfl) ?_
 refine WP.val rfl rfl rfl (Val.load rfl Ty.sc151 rfl (fun w h => h.cell 0 rfl rfl)) ?_
 refine WP.val rfl rfl rfl (Val.len rfl Ty.sl151 rfl) ?_
 refine WP.val rfl rfl rfl (Val.sub (z := ((0 : Nat) : Int) - 1) rfl rfl rfl (w64 (by omega) (by omega))) ?_
 refine WP.val rfl rfl rfl (Val.assign rfl rfl) ?_
 refine WP.nx ?_
 refine WPc.sr ?_
 refine WP.val rfl rfl rfl (Val.move rfl rfl) ?_
 refine WP.val rfl rfl rfl (Val.assign rfl rfl) ?_
 refine WP.nx ?_
 refine WPc.seq ?_
 refine WPc.block ?_
 refine WPc.loop (ι := Nat) (fun k => k ≤ 0 ∧ fg (([] : List GV).map (·.1)) at_ 0 = fg (([] : List GV).map (·.1)) at_ k) (fun k => [(0, .pointer (some ⟨b, 0, none⟩)), (1, .int .i64 (at_)), (5, .int .i64 (((0 : Nat) : Int) - 1)), (6, .int .i64 (((k : Nat) : Int) - 1))]) (fun k => Blk b [.slice ka kn kc, .int .i64 (md.m), .int .i64 (md.s), .slice a 0 c] 153 :: A :: F) (fun k => k) 0 ⟨Nat.le_refl _, rfl⟩ ((Sub.cons rfl (Sub.cons rfl (Sub.cons rfl (Sub.cons rfl Sub.nil))))) (fun _ h => h) ?_
 rintro k ⟨hk, hk2⟩
 show WPc _ _ _ _ _ [(0, _), (1, _), (5, .int .i64 (((0 : Nat) : Int) - 1)), (6, .int .i64 (((k : Nat) : Int) - 1))] _
 refine WPc.seq ?_
 refine WPc.sr ?_
 refine WP.val rfl rfl rfl (Val.move rfl rfl) ?_
 refine WP.val rfl rfl rfl (Val.geq rfl rfl rfl) ?_
 refine WP.nx ?_
 refine WPc.ifP rfl (fun h1 => ?_) (fun h1 => ?_)
 ·
  have h1 : ((0 : Int) ≤ (((k : Nat) : Int) - 1)) := h1
  exfalso; omega
 ·
  have h1 : ¬ ((0 : Int) ≤ (((k : Nat) : Int) - 1)) := h1
  refine WPc.exit ?_
  refine Out.then_exit ?_
  refine Out.then_exit ?_
  refine Out.block_exit ?_
  refine Out.next ?_
  refine WPc.sr ?_
  refine WP.val rfl rfl rfl (Val.assign rfl rfl) ?_
  refine WP.nx ?_
  refine WPc.ret ?_
  exact Out.ret1 (L' := _) Try.results80 rfl ⟨.inl ⟨(by rw [hk2, show k = 0 from by omega]; rfl), rfl⟩, rfl⟩ (fun _ h => h)

set_option maxRecDepth 100000 in
set_option maxHeartbeats 2000000 in
theorem fgen_row (A : HProp) (b : Nat) (ka : Option Addr) (kn kc : Nat) (md : Rv) (at_ : Int) (l : List GV) (hsm : Small (l.map (·.1))) (hin : ∀ p ∈ l, Rd A 2 Rv.cells p.2 p.1.revs) (b0 o0 c0 : Nat) (hr : ∀ w, Holds A w → ∀ i x, l[i]? = some x → w.rangeAt b0 (o0 + i * 4) (GV.cells x)) : Does Try.prog 80 [.pointer (some ⟨b, 0, none⟩), .int .i64 (at_)] [Blk b [.slice ka kn kc, .int .i64 (md.m), .int .i64 (md.s), .slice (some ⟨b0, o0, none⟩) l.length c0] 153, A] (fun v L => ((fg (l.map (·.1)) at_ l.length = -1 ∧ v = .pointer none) ∨ (∃ k bb oo cc, k < l.length ∧ fg (l.map (·.1)) at_ l.length = ((k : Nat) : Int) ∧ ((.slice (some ⟨b0, o0, none⟩) l.length c0) : Value) = .slice (some ⟨bb, oo, none⟩) l.length cc ∧ v = .pointer (some ⟨bb, oo + k * 4, none⟩))) ∧ L = [Blk b [.slice ka kn kc, .int .i64 md.m, .int .i64 md.s, (.slice (some ⟨b0, o0, none⟩) l.length c0)] 153, A]) := by
 refine Does.enter 67 Try.func80 rfl rfl rfl fun W F => ?_
 show WPc _ _ _ _ _ [(0, .pointer (some ⟨b, 0, none⟩)), (1, .int .i64 (at_))] (Blk b [.slice ka kn kc, .int .i64 (md.m), .int .i64 (md.s), .slice (some ⟨b0, o0, none⟩) l.length c0] 153 :: A :: F)
 refine WPc.sr ?_
 refine WP.val rfl rfl rfl (Val.assign rfl rfl) ?_
 refine WP.nx ?_
 refine WPc.seq ?_
 have hlen := hsm.len
 refine WPc.region ?_
 refine WP.val rfl rfl rfl (Val.move rfl rfl) ?_
 refine WP.val rfl rfl rfl (Val.nilCheck rfl rfl) ?_
 refine WP.val rfl rfl rfl (Val.fieldAddr (j := 3) rfl Ty.fo153_2 rfl rfl) ?_
 refine WP.val rfl rfl rfl (Val.load rfl Ty.sc151 rfl (fun w h => h.cell 0 rfl rfl)) ?_
 refine WP.val rfl rfl rfl (Val.len rfl Ty.sl151 rfl) ?_
 refine WP.val rfl rfl rfl (Val.sub (z := ((l.length : Nat) : Int) - 1) rfl rfl rfl (w64 (by omega) (by omega))) ?_
 refine WP.val rfl rfl rfl (Val.assign rfl rfl) ?_
 refine WP.nx ?_
 refine WPc.sr ?_
 refine WP.val rfl rfl rfl (Val.move rfl rfl) ?_
 refine WP.val rfl rfl rfl (Val.assign rfl rfl) ?_
 refine WP.nx ?_
 refine WPc.seq ?_
 refine WPc.block ?_
 refine WPc.loop (ι := Nat) (fun k => k ≤ l.length ∧ fg (l.map (·.1)) at_ l.length = fg (l.map (·.1)) at_ k) (fun k => [(0, .pointer (some ⟨b, 0, none⟩)), (1, .int .i64 (at_)), (5, .int .i64 (((l.length : Nat) : Int) - 1)), (6, .int .i64 (((k : Nat) : Int) - 1))]) (fun k => Blk b [.slice ka kn kc, .int .i64 (md.m), .int .i64 (md.s), .slice (some ⟨b0, o0, none⟩) l.length c0] 153 :: A :: F) (fun k => k) l.length ⟨Nat.le_refl _, rfl⟩ ((Sub.cons rfl (Sub.cons rfl (Sub.cons rfl (Sub.cons rfl Sub.nil))))) (fun _ h => h) ?_
 rintro k ⟨hk, hk2⟩
 show WPc _ _ _ _ _ [(0, _), (1, _), (5, .int .i64 (((l.length : Nat) : Int) - 1)), (6, .int .i64 (((k : Nat) : Int) - 1))] _
 refine WPc.seq ?_
 refine WPc.sr ?_
 refine WP.val rfl rfl rfl (Val.move rfl rfl) ?_
 refine WP.val rfl rfl rfl (Val.geq rfl rfl rfl) ?_
 refine WP.nx ?_
 refine WPc.ifP rfl (fun h1 => ?_) (fun h1 => ?_)
 ·
  have h1 : ((0 : Int) ≤ (((k : Nat) : Int) - 1)) := h1
  refine WPc.skip ?_
  refine Out.next ?_
  refine WPc.block ?_
  refine WPc.seq ?_
  refine WPc.seq ?_
  obtain ⟨j, rfl⟩ : ∃ j, k = j + 1 := ⟨k - 1, by omega⟩
  refine WPc.know 6 (.int .i64 ((j : Nat) : Int)) rfl (congrArg (Value.int .i64) (by omega)) ?_
  have hlt : j < l.length := by omega
  obtain ⟨⟨g, u⟩, hx⟩ : ∃ x, l[j]? = some x := ⟨_, List.getElem?_eq_getElem hlt⟩
  have hxm : (g, u) ∈ l := List.mem_iff_getElem?.2 ⟨_, hx⟩
  have hin1 : Rd A 2 Rv.cells u g.revs := hin _ hxm
  have hsx : g.revs.length ≤ 200000 := hsm.inn hxm
  have hgj : (l.map (·.1))[j]? = some g := by rw [List.getElem?_map, hx]; rfl
  have hst := fg_step (at_ := at_) hgj
  rw [List.length_map] at hst
  refine WPc.region ?_
  refine WP.val rfl rfl rfl (Val.move rfl rfl) ?_
  refine WP.val rfl rfl rfl (Val.nilCheck rfl rfl) ?_
  refine WP.val rfl rfl rfl (Val.fieldAddr (j := 3) rfl Ty.fo153_2 rfl rfl) ?_
  refine WP.val rfl rfl rfl (Val.load rfl Ty.sc151 rfl (fun w h => h.cell 0 rfl rfl)) ?_
  refine WP.val rfl rfl rfl (Val.move rfl rfl) ?_
  refine WP.val rfl rfl rfl (Val.indexAddr (j := j) (q := o0 + j * 4) rfl Ty.sl151 rfl rfl (by omega) (by omega) (by omega)) ?_
  refine WP.val rfl rfl rfl (Val.fieldAddr (j := o0 + j * 4 + 3) rfl Ty.fo155_2 rfl rfl) ?_
  refine WP.val rfl rfl rfl (Val.load (v := u) rfl Ty.sc132 rfl (fun w h => hr w (h.at 1 rfl) (j) (g, u) hx 3 _ rfl)) ?_
  refine WP.val rfl rfl rfl (Rd.len hin1 rfl Ty.sl132 rfl) ?_
  refine WP.val rfl rfl rfl (Val.eql rfl rfl rfl) ?_
  refine WP.nx ?_
  refine WPc.ifP rfl (fun h2 => ?_) (fun h2 => ?_)
  ·
   have h2 : (((g.revs.length : Nat) : Int) = (0 : Int)) := h2
   refine WPc.sr ?_
   refine WP.val rfl rfl rfl (Val.move rfl rfl) ?_
   refine WP.val rfl rfl rfl (Val.sub (z := ((j : Nat) : Int) - 1) rfl rfl rfl (w64 (by omega) (by omega))) ?_
   refine WP.val rfl rfl rfl (Val.assign rfl rfl) ?_
   refine WP.nx ?_
   refine WPc.exit ?_
   refine Out.then_exit ?_
   refine Out.block_exit ?_
   refine Out.again j ?_ ?_ ?_ ?_
   ·
    exact (by refine ⟨by omega, hk2.trans (hst.trans ?_)⟩; first | rw [if_pos (by omega)] | rw [if_neg (by omega), if_neg (by omega), if_neg (by omega)])
   ·
    first | omega | (dsimp only; omega)
   ·
    exact (Sub.cons rfl (Sub.cons rfl (Sub.cons rfl (Sub.cons rfl Sub.nil))))
   ·
    exact (fun _ h => h)
  ·
   have h2 : ¬ (((g.revs.length : Nat) : Int) = (0 : Int)) := h2
   refine WPc.skip ?_
   refine Out.next ?_
   refine WPc.seq ?_
   obtain ⟨bi, oi, ci, rfl, hri⟩ := Rd.row hin1 (by omega)
   obtain ⟨y0, hy0⟩ : ∃ y, g.revs[0]? = some y := ⟨_, List.getElem?_eq_getElem (by omega)⟩
   obtain ⟨y1, hy1⟩ : ∃ y, g.revs[g.revs.length - 1]? = some y := ⟨_, List.getElem?_eq_getElem (by omega)⟩
   have hf0 := fst_at hy0
   have hl1 := lst_at hy1
   refine WPc.region ?_
   refine WP.val rfl rfl rfl (Val.move rfl rfl) ?_
   refine WP.val rfl rfl rfl (Val.nilCheck rfl rfl) ?_
   refine WP.val rfl rfl rfl (Val.fieldAddr (j := 3) rfl Ty.fo153_2 rfl rfl) ?_
   refine WP.val rfl rfl rfl (Val.load rfl Ty.sc151 rfl (fun w h => h.cell 0 rfl rfl)) ?_
   refine WP.val rfl rfl rfl (Val.move rfl rfl) ?_
   refine WP.val rfl rfl rfl (Val.indexAddr (j := j) (q := o0 + j * 4) rfl Ty.sl151 rfl rfl (by omega) (by omega) (by omega)) ?_
   refine WP.val rfl rfl rfl (Val.loadAgg (cs := (GV.cells (g, .slice (some ⟨bi, oi, none⟩) g.revs.length ci))) rfl Ty.ag155 rfl (by rfl) (fun w h => hr w (h.at 1 rfl) j (g, _) hx)) ?_
   refine WP.eff rfl rfl rfl (Eff.alloc rfl Ty.z155) ?_
   rintro _ _ ⟨b1, rfl, rfl⟩
   refine WP.eff0 rfl rfl (Eff.storeAgg (cs := [.int .i64 (g.v), .int .i64 (g.c.m), .int .i64 (g.c.s), .slice (some ⟨bi, oi, none⟩) g.revs.length ci]) (C' := [.int .i64 (g.v), .int .i64 (g.c.m), .int .i64 (g.c.s), .slice (some ⟨bi, oi, none⟩) g.revs.length ci]) rfl Ty.ag155 rfl rfl rfl rfl (by simp) rfl) ?_
   rintro _ _ rfl
   refine WP.nx ?_
   refine WPc.seq ?_
   refine WPc.sr ?_
   refine WP.val rfl rfl rfl (Val.move rfl rfl) ?_
   refine WP.val rfl rfl rfl (Val.move rfl rfl) ?_
   refine WP.val rfl rfl rfl (Val.neq rfl rfl rfl) ?_
   refine WP.nx ?_
   refine WPc.ifP rfl (fun h3 => ?_) (fun h3 => ?_)
   ·
    have h3 : (((j : Nat) : Int) ≠ (((l.length : Nat) : Int) - 1)) := h3
    refine WPc.sr ?_
    refine WP.val rfl rfl rfl (Val.fieldAddr (j := 3) rfl Ty.fo155_2 rfl rfl) ?_
    refine WP.val rfl rfl rfl (Val.load rfl Ty.sc132 rfl (fun w h => h.cell 0 rfl rfl)) ?_
    refine WP.val rfl rfl rfl (Val.fieldAddr (j := 3) rfl Ty.fo155_2 rfl rfl) ?_
    refine WP.val rfl rfl rfl (Val.load rfl Ty.sc132 rfl (fun w h => h.cell 0 rfl rfl)) ?_
    refine WP.val rfl rfl rfl (Val.len rfl Ty.sl132 rfl) ?_
    refine WP.val rfl rfl rfl (Val.sub (z := ((g.revs.length - 1 : Nat) : Int)) rfl rfl rfl ((w64 (by omega) (by omega)).trans (by omega))) ?_
    refine WP.val rfl rfl rfl (Val.indexAddr (j := g.revs.length - 1) (q := oi + (g.revs.length - 1) * 2) rfl Ty.sl132 rfl rfl (by omega) (by omega) (by omega)) ?_
    refine WP.val rfl rfl rfl (Val.fieldAddr (j := oi + (g.revs.length - 1) * 2) rfl Ty.fo81_0 rfl rfl) ?_
    refine WP.val rfl rfl rfl (Val.load (v := .int .i64 (y1.m)) rfl Ty.sc2 rfl (fun w h => hri w (h.at 2 rfl) _ y1 hy1 0 _ rfl)) ?_
    refine WP.val rfl rfl rfl (Val.assign rfl rfl) ?_
    refine WP.nx ?_
    refine WPc.sr ?_
    refine WP.val rfl rfl rfl (Val.move rfl rfl) ?_
    refine WP.val rfl rfl rfl (Val.move rfl rfl) ?_
    refine WP.val rfl rfl rfl (Val.leq rfl rfl rfl) ?_
    refine WP.nx ?_
    refine WPc.ifP rfl (fun h4 => ?_) (fun h4 => ?_)
    ·
     have h4 : (y1.m ≤ at_) := h4
     refine WPc.sr ?_
     refine WP.val rfl rfl rfl (Val.assign rfl rfl) ?_
     refine WP.nx ?_
     refine WPc.ret ?_
     refine Out.then_ret ?_
     refine Out.block_ret ?_
     refine Out.then_ret ?_
     refine Out.block_ret ?_
     refine Out.then_ret ?_
     refine Out.drop ?_
     exact Out.ret1 (L' := _) Try.results80 rfl ⟨.inl ⟨hk2.trans (hst.trans (by rw [if_neg (by omega), if_pos (by omega)])), rfl⟩, rfl⟩ (fun _ h => h)
    ·
     have h4 : ¬ (y1.m ≤ at_) := h4
     refine WPc.skip ?_
     refine Out.next ?_
     refine WPc.seq ?_
     refine WPc.sr ?_
     refine WP.val rfl rfl rfl (Val.fieldAddr (j := 3) rfl Ty.fo155_2 rfl rfl) ?_
     refine WP.val rfl rfl rfl (Val.load rfl Ty.sc132 rfl (fun w h => h.cell 0 rfl rfl)) ?_
     refine WP.val rfl rfl rfl (Val.indexAddr (j := 0) (q := oi + 0 * 2) rfl Ty.sl132 rfl rfl (by omega) (by omega) (by omega)) ?_
     refine WP.val rfl rfl rfl (Val.fieldAddr (j := oi + 0 * 2) rfl Ty.fo81_0 rfl rfl) ?_
     refine WP.val rfl rfl rfl (Val.load (v := .int .i64 (y0.m)) rfl Ty.sc2 rfl (fun w h => hri w (h.at 2 rfl) 0 y0 hy0 0 _ rfl)) ?_
     refine WP.val rfl rfl rfl (Val.move rfl rfl) ?_
     refine WP.val rfl rfl rfl (Val.leq rfl rfl rfl) ?_
     refine WP.nx ?_
     refine WPc.ifP rfl (fun h5 => ?_) (fun h5 => ?_)
     ·
      have h5 : (y0.m ≤ at_) := h5
      refine WPc.sr ?_
      refine WP.val rfl rfl rfl (Val.move rfl rfl) ?_
      refine WP.val rfl rfl rfl (Val.nilCheck rfl rfl) ?_
      refine WP.val rfl rfl rfl (Val.fieldAddr (j := 3) rfl Ty.fo153_2 rfl rfl) ?_
      refine WP.val rfl rfl rfl (Val.load rfl Ty.sc151 rfl (fun w h => h.cell 1 rfl rfl)) ?_
      refine WP.val rfl rfl rfl (Val.move rfl rfl) ?_
      refine WP.val rfl rfl rfl (Val.indexAddr (j := j) (q := o0 + j * 4) rfl Ty.sl151 rfl rfl (by omega) (by omega) (by omega)) ?_
      refine WP.val rfl rfl rfl (Val.assign rfl rfl) ?_
      refine WP.nx ?_
      refine WPc.ret ?_
      refine Out.then_ret ?_
      refine Out.block_ret ?_
      refine Out.then_ret ?_
      refine Out.block_ret ?_
      refine Out.then_ret ?_
      refine Out.drop ?_
      exact Out.ret1 (L' := _) Try.results80 rfl ⟨.inr ⟨j, b0, o0, c0, by omega, hk2.trans (hst.trans (by rw [if_neg (by omega), if_neg (by omega), if_pos (by omega)])), rfl, rfl⟩, rfl⟩ (fun _ h => h)
     ·
      have h5 : ¬ (y0.m ≤ at_) := h5
      refine WPc.skip ?_
      refine Out.next ?_
      refine WPc.region ?_
      refine WP.val rfl rfl rfl (Val.move rfl rfl) ?_
      refine WP.val rfl rfl rfl (Val.sub (z := ((j : Nat) : Int) - 1) rfl rfl rfl (w64 (by omega) (by omega))) ?_
      refine WP.val rfl rfl rfl (Val.assign rfl rfl) ?_
      refine WP.nil ?_
      refine Out.block ?_
      refine Out.drop ?_
      refine Out.again j ?_ ?_ ?_ ?_
      ·
       exact (by refine ⟨by omega, hk2.trans (hst.trans ?_)⟩; first | rw [if_pos (by omega)] | rw [if_neg (by omega), if_neg (by omega), if_neg (by omega)])
      ·
       first | omega | (dsimp only; omega)
      ·
       exact (Sub.cons rfl (Sub.cons rfl (Sub.cons rfl (Sub.cons rfl Sub.nil))))
      ·
       exact (fun _ h => h)
   ·
    have h3 : ¬ (((j : Nat) : Int) ≠ (((l.length : Nat) : Int) - 1)) := h3
    refine WPc.skip ?_
    refine Out.next ?_
    refine WPc.seq ?_
    refine WPc.sr ?_
    refine WP.val rfl rfl rfl (Val.fieldAddr (j := 3) rfl Ty.fo155_2 rfl rfl) ?_
    refine WP.val rfl rfl rfl (Val.load rfl Ty.sc132 rfl (fun w h => h.cell 0 rfl rfl)) ?_
    refine WP.val rfl rfl rfl (Val.indexAddr (j := 0) (q := oi + 0 * 2) rfl Ty.sl132 rfl rfl (by omega) (by omega) (by omega)) ?_
    refine WP.val rfl rfl rfl (Val.fieldAddr (j := oi + 0 * 2) rfl Ty.fo81_0 rfl rfl) ?_
    refine WP.val rfl rfl rfl (Val.load (v := .int .i64 (y0.m)) rfl Ty.sc2 rfl (fun w h => hri w (h.at 2 rfl) 0 y0 hy0 0 _ rfl)) ?_
    refine WP.val rfl rfl rfl (Val.move rfl rfl) ?_
    refine WP.val rfl rfl rfl (Val.leq rfl rfl rfl) ?_
    refine WP.nx ?_
    refine WPc.ifP rfl (fun h6 => ?_) (fun h6 => ?_)
    ·
     have h6 : (y0.m ≤ at_) := h6
     refine WPc.sr ?_
     refine WP.val rfl rfl rfl (Val.move rfl rfl) ?_
     refine WP.val rfl rfl rfl (Val.nilCheck rfl rfl) ?_
     refine WP.val rfl rfl rfl (Val.fieldAddr (j := 3) rfl Ty.fo153_2 rfl rfl) ?_
     refine WP.val rfl rfl rfl (Val.load rfl Ty.sc151 rfl (fun w h => h.cell 1 rfl rfl)) ?_
     refine WP.val rfl rfl rfl (Val.move rfl rfl) ?_
     refine WP.val rfl rfl rfl (Val.indexAddr (j := j) (q := o0 + j * 4) rfl Ty.sl151 rfl rfl (by omega) (by omega) (by omega)) ?_
     refine WP.val rfl rfl rfl (Val.assign rfl rfl) ?_
     refine WP.nx ?_
     refine WPc.ret ?_
     refine Out.then_ret ?_
     refine Out.block_ret ?_
     refine Out.then_ret ?_
     refine Out.block_ret ?_
     refine Out.then_ret ?_
     refine Out.drop ?_
     exact Out.ret1 (L' := _) Try.results80 rfl ⟨.inr ⟨j, b0, o0, c0, by omega, hk2.trans (hst.trans (by rw [if_neg (by omega), if_neg (by omega), if_pos (by omega)])), rfl, rfl⟩, rfl⟩ (fun _ h => h)
    ·
     have h6 : ¬ (y0.m ≤ at_) := h6
     refine WPc.skip ?_
     refine Out.next ?_
     refine WPc.region ?_
     refine WP.val rfl rfl rfl (Val.move rfl rfl) ?_
     refine WP.val rfl rfl rfl (Val.sub (z := ((j : Nat) : Int) - 1) rfl rfl rfl (w64 (by omega) (by omega))) ?_
     refine WP.val rfl rfl rfl (Val.assign rfl rfl) ?_
     refine WP.nil ?_
     refine Out.block ?_
     refine Out.drop ?_
     refine Out.again j ?_ ?_ ?_ ?_
     ·
      exact (by refine ⟨by omega, hk2.trans (hst.trans ?_)⟩; first | rw [if_pos (by omega)] | rw [if_neg (by omega), if_neg (by omega), if_neg (by omega)])
     ·
      first | omega | (dsimp only; omega)
     ·
      exact (Sub.cons rfl (Sub.cons rfl (Sub.cons rfl (Sub.cons rfl Sub.nil))))
     ·
      exact (fun _ h => h)
 ·
  have h1 : ¬ ((0 : Int) ≤ (((k : Nat) : Int) - 1)) := h1
  refine WPc.exit ?_
  refine Out.then_exit ?_
  refine Out.then_exit ?_
  refine Out.block_exit ?_
  refine Out.next ?_
  refine WPc.sr ?_
  refine WP.val rfl rfl rfl (Val.assign rfl rfl) ?_
  refine WP.nx ?_
  refine WPc.ret ?_
  exact Out.ret1 (L' := _) Try.results80 rfl ⟨.inl ⟨(by rw [hk2, show k = 0 from by omega]; rfl), rfl⟩, rfl⟩ (fun _ h => h)

theorem fgen_spec (A : HProp) (b : Nat) (ka : Option Addr) (kn kc : Nat) (md : Rv) (at_ : Int) (l : List GV) (hsm : Small (l.map (·.1))) (hin : ∀ p ∈ l, Rd A 2 Rv.cells p.2 p.1.revs) (va : Value) (hva : Rd A 4 GV.cells va l) : Does Try.prog 80 [.pointer (some ⟨b, 0, none⟩), .int .i64 (at_)] [Blk b [.slice ka kn kc, .int .i64 (md.m), .int .i64 (md.s), va] 153, A] (fun v L => ((fg (l.map (·.1)) at_ l.length = -1 ∧ v = .pointer none) ∨ (∃ k bb oo cc, k < l.length ∧ fg (l.map (·.1)) at_ l.length = ((k : Nat) : Int) ∧ (va : Value) = .slice (some ⟨bb, oo, none⟩) l.length cc ∧ v = .pointer (some ⟨bb, oo + k * 4, none⟩))) ∧ L = [Blk b [.slice ka kn kc, .int .i64 md.m, .int .i64 md.s, va] 153, A]) := by
 rcases hva with ⟨b0, o0, c0, rfl, hr⟩ | ⟨rfl, a, c, rfl⟩
 ·
  exact fgen_row A b ka kn kc md at_ l hsm hin b0 o0 c0 hr
 ·
  exact fgen_nil A b ka kn kc md at_ a c

end Go.Proofs.Ythicijpjpijdjaa.Kp

namespace Go.Proofs.Ythicijpjpijdjaa.Kq
open Go.RowKit Go.Proofs.Ythicijpjpijdjaa Go.Proofs.Ythicijpjpijdjaa.Sl Go.Proofs.Ythicijpjpijdjaa.KyP Go.Proofs.Ythicijpjpijdjaa.Ka Go.Proofs.Ythicijpjpijdjaa.Kb Go.Proofs.Ythicijpjpijdjaa.Kc Go.Proofs.Ythicijpjpijdjaa.Kd Go.Proofs.Ythicijpjpijdjaa.Ke Go.Proofs.Ythicijpjpijdjaa.Kf Go.Proofs.Ythicijpjpijdjaa.Kg Go.Proofs.Ythicijpjpijdjaa.Kh Go.Proofs.Ythicijpjpijdjaa.Ki Go.Proofs.Ythicijpjpijdjaa.Kj Go.Proofs.Ythicijpjpijdjaa.Kk Go.Proofs.Ythicijpjpijdjaa.Kl Go.Proofs.Ythicijpjpijdjaa.Km Go.Proofs.Ythicijpjpijdjaa.Kn Go.Proofs.Ythicijpjpijdjaa.Ko Go.Proofs.Ythicijpjpijdjaa.Kp
set_option linter.unusedVariables false
set_option linter.unusedSimpArgs false
set_option linter.unusedSectionVars false

set_option maxRecDepth 100000 in
set_option maxHeartbeats 2000000 in
theorem find_nil (A : HProp) (b : Nat) (ka : Option Addr) (kn kc : Nat) (md : Rv) (at_ : Int) (a : Option Addr) (c : Nat) : Does Try.prog 37 [.agg #[.pointer (some ⟨b, 0, none⟩)], .int .i64 (at_)] [Blk b [.slice ka kn kc, .int .i64 (md.m), .int .i64 (md.s), .slice a 0 c] 153, A] (fun v L => v = .int .i64 (fg (([] : List GV).map (·.1)) at_ 0) ∧ L = [Blk b [.slice ka kn kc, .int .i64 md.m, .int .i64 md.s, (.slice a 0 c)] 153, A]) := by
 refine Does.enter 31 Try.func37 rfl rfl rfl fun W F => ?_
 show WPc _ _ _ _ _ [(0, .agg #[.pointer (some ⟨b, 0, none⟩)]), (1, .int .i64 (at_))] (Blk b [.slice ka kn kc, .int .i64 (md.m), .int .i64 (md.s), .slice a 0 c] 153 :: A :: F)
 refine WPc.sr ?_
 refine WP.eff rfl rfl rfl (Eff.box (C := [.pointer (some ⟨b, 0, none⟩)]) rfl rfl rfl) ?_
 rintro _ _ ⟨b1, rfl, rfl⟩
 refine WP.val rfl rfl rfl (Val.assign rfl rfl) ?_
 refine WP.nx ?_
 refine WPc.sr ?_
 refine WP.val rfl rfl rfl (Val.fieldAddr (j := 0) rfl Ty.fo78_0 rfl rfl) ?_
 refine WP.val rfl rfl rfl (Val.load rfl Ty.sc76 rfl (fun w h => h.cell 0 rfl rfl)) ?_
 refine WP.val rfl rfl rfl (Val.move rfl rfl) ?_
 refine WP.perm pl2 ?_
 refine WP.perm pl2 ?_
 refine WP.eff rfl rfl rfl (Eff.call rfl rfl Try.call80 (fgen_nil A b ka kn kc md at_ a c)) ?_
 rintro vp _ ⟨_, ⟨hfg, rfl⟩, rfl⟩
 show WP _ _ _ _ _ _ _ (_ :: _ :: Blk b1 [.pointer (some ⟨b, 0, none⟩)] 78 :: _)
 refine WP.val rfl rfl rfl (Val.assign rfl rfl) ?_
 refine WP.nx ?_
 refine WPc.seq ?_
 refine WPc.seq ?_
 rcases hfg with ⟨hfg, rfl⟩ | ⟨k, bb, oo, cc, hk, hfg, he, rfl⟩
 ·
  refine WPc.region ?_
  refine WP.val rfl rfl rfl (Val.fieldAddr (j := 0) rfl Ty.fo78_0 rfl rfl) ?_
  refine WP.val rfl rfl rfl (Val.load rfl Ty.sc76 rfl (fun w h => h.cell 2 rfl rfl)) ?_
  refine WP.val rfl rfl rfl (Val.nilCheck rfl rfl) ?_
  refine WP.val rfl rfl rfl (Val.fieldAddr (j := 3) rfl Ty.fo153_2 rfl rfl) ?_
  refine WP.val rfl rfl rfl (Val.load rfl Ty.sc151 rfl (fun w h => h.cell 0 rfl rfl)) ?_
  refine WP.val rfl rfl rfl (Val.len rfl Ty.sl151 rfl) ?_
  refine WP.val rfl rfl rfl (Val.move rfl rfl) ?_
  refine WP.nx ?_
  refine WPc.block ?_
  refine WPc.perm pl1 ?_
  refine WPc.perm pl1 ?_
  refine WPc.perm pl2 ?_
  refine WPc.loop (ι := Nat) (fun i => i ≤ 0) (fun i => [(2, .pointer (some ⟨b1, 0, none⟩)), (5, .pointer none), (16, .int .i64 0), (17, .int .i64 (((i : Nat) : Int)))]) (fun i => Blk b1 [.pointer (some ⟨b, 0, none⟩)] 78 :: Blk b [.slice ka kn kc, .int .i64 (md.m), .int .i64 (md.s), .slice a 0 c] 153 :: A :: F) (fun i => 0 - i) 0 (Nat.zero_le _) ((Sub.cons rfl (Sub.cons rfl (Sub.cons rfl (Sub.cons rfl Sub.nil))))) (fun _ h => h) ?_
  rintro i hi
  show WPc _ _ _ _ _ [(2, .pointer (some ⟨b1, 0, none⟩)), (5, .pointer none), (16, .int .i64 0), (17, .int .i64 (((i : Nat) : Int)))] _
  replace hi : i ≤ 0 := hi
  refine WPc.sr ?_
  refine WP.val rfl rfl rfl (Val.lss rfl rfl rfl) ?_
  refine WP.nx ?_
  refine WPc.seq ?_
  refine WPc.ifP rfl (fun h1 => ?_) (fun h1 => ?_)
  ·
   have h1 : (((i : Nat) : Int) < (0 : Int)) := h1
   exfalso; omega
  ·
   have h1 : ¬ (((i : Nat) : Int) < (0 : Int)) := h1
   refine WPc.exit ?_
   refine Out.then_exit ?_
   refine Out.then_exit ?_
   refine Out.block_exit ?_
   refine Out.next ?_
   refine WPc.sr ?_
   refine WP.val rfl rfl rfl (Val.assign rfl rfl) ?_
   refine WP.nx ?_
   refine WPc.ret ?_
   refine Out.drop ?_
   exact Out.ret1 (L' := _) Try.results37 rfl ⟨congrArg (Value.int .i64) (show _ = fg (([] : List GV).map (·.1)) at_ 0 by rw [hfg]), rfl⟩ (fun _ h => h)
 ·
  exact absurd hk (Nat.not_lt_zero _)

set_option maxRecDepth 100000 in
set_option maxHeartbeats 2000000 in
theorem find_row (A : HProp) (b : Nat) (ka : Option Addr) (kn kc : Nat) (md : Rv) (at_ : Int) (l : List GV) (hsm : Small (l.map (·.1))) (hin : ∀ p ∈ l, Rd A 2 Rv.cells p.2 p.1.revs) (b0 o0 c0 : Nat) (hr : ∀ w, Holds A w → ∀ i x, l[i]? = some x → w.rangeAt b0 (o0 + i * 4) (GV.cells x)) : Does Try.prog 37 [.agg #[.pointer (some ⟨b, 0, none⟩)], .int .i64 (at_)] [Blk b [.slice ka kn kc, .int .i64 (md.m), .int .i64 (md.s), .slice (some ⟨b0, o0, none⟩) l.length c0] 153, A] (fun v L => v = .int .i64 (fg (l.map (·.1)) at_ l.length) ∧ L = [Blk b [.slice ka kn kc, .int .i64 md.m, .int .i64 md.s, (.slice (some ⟨b0, o0, none⟩) l.length c0)] 153, A]) := by
 refine Does.enter 31 Try.func37 rfl rfl rfl fun W F => ?_
 show WPc _ _ _ _ _ [(0, .agg #[.pointer (some ⟨b, 0, none⟩)]), (1, .int .i64 (at_))] (Blk b [.slice ka kn kc, .int .i64 (md.m), .int .i64 (md.s), .slice (some ⟨b0, o0, none⟩) l.length c0] 153 :: A :: F)
 refine WPc.sr ?_
 refine WP.eff rfl rfl rfl (Eff.box (C := [.pointer (some ⟨b, 0, none⟩)]) rfl rfl rfl) ?_
 rintro _ _ ⟨b1, rfl, rfl⟩
 refine WP.val rfl rfl rfl (Val.assign rfl rfl) ?_
 refine WP.nx ?_
 refine WPc.seq ?_
 have hlen := hsm.len
 refine WPc.region ?_
 refine WP.val rfl rfl rfl (Val.fieldAddr (j := 0) rfl Ty.fo78_0 rfl rfl) ?_
 refine WP.val rfl rfl rfl (Val.load rfl Ty.sc76 rfl (fun w h => h.cell 0 rfl rfl)) ?_
 refine WP.val rfl rfl rfl (Val.move rfl rfl) ?_
 refine WP.perm pl2 ?_
 refine WP.perm pl2 ?_
 refine WP.eff rfl rfl rfl (Eff.call rfl rfl Try.call80 (fgen_row A b ka kn kc md at_ l hsm hin b0 o0 c0 hr)) ?_
 rintro vp _ ⟨_, ⟨hfg, rfl⟩, rfl⟩
 show WP _ _ _ _ _ _ _ (_ :: _ :: Blk b1 [.pointer (some ⟨b, 0, none⟩)] 78 :: _)
 refine WP.val rfl rfl rfl (Val.assign rfl rfl) ?_
 refine WP.nx ?_
 refine WPc.seq ?_
 refine WPc.seq ?_
 rcases hfg with ⟨hfg, rfl⟩ | ⟨k, bb, oo, cc, hk, hfg, he, rfl⟩
 ·
  refine WPc.region ?_
  refine WP.val rfl rfl rfl (Val.fieldAddr (j := 0) rfl Ty.fo78_0 rfl rfl) ?_
  refine WP.val rfl rfl rfl (Val.load rfl Ty.sc76 rfl (fun w h => h.cell 2 rfl rfl)) ?_
  refine WP.val rfl rfl rfl (Val.nilCheck rfl rfl) ?_
  refine WP.val rfl rfl rfl (Val.fieldAddr (j := 3) rfl Ty.fo153_2 rfl rfl) ?_
  refine WP.val rfl rfl rfl (Val.load rfl Ty.sc151 rfl (fun w h => h.cell 0 rfl rfl)) ?_
  refine WP.val rfl rfl rfl (Val.len rfl Ty.sl151 rfl) ?_
  refine WP.val rfl rfl rfl (Val.move rfl rfl) ?_
  refine WP.nx ?_
  refine WPc.block ?_
  refine WPc.perm pl1 ?_
  refine WPc.perm pl1 ?_
  refine WPc.perm pl2 ?_
  refine WPc.loop (ι := Nat) (fun i => i ≤ l.length) (fun i => [(2, .pointer (some ⟨b1, 0, none⟩)), (5, .pointer none), (16, .int .i64 (((l.length : Nat) : Int))), (17, .int .i64 (((i : Nat) : Int)))]) (fun i => Blk b1 [.pointer (some ⟨b, 0, none⟩)] 78 :: Blk b [.slice ka kn kc, .int .i64 (md.m), .int .i64 (md.s), .slice (some ⟨b0, o0, none⟩) l.length c0] 153 :: A :: F) (fun i => l.length - i) 0 (Nat.zero_le _) ((Sub.cons rfl (Sub.cons rfl (Sub.cons rfl (Sub.cons rfl Sub.nil))))) (fun _ h => h) ?_
  rintro i hi
  show WPc _ _ _ _ _ [(2, .pointer (some ⟨b1, 0, none⟩)), (5, .pointer none), (16, .int .i64 (((l.length : Nat) : Int))), (17, .int .i64 (((i : Nat) : Int)))] _
  replace hi : i ≤ l.length := hi
  refine WPc.sr ?_
  refine WP.val rfl rfl rfl (Val.lss rfl rfl rfl) ?_
  refine WP.nx ?_
  refine WPc.seq ?_
  refine WPc.ifP rfl (fun h1 => ?_) (fun h1 => ?_)
  ·
   have h1 : (((i : Nat) : Int) < ((l.length : Nat) : Int)) := h1
   refine WPc.skip ?_
   refine Out.next ?_
   refine WPc.seq ?_
   refine WPc.block ?_
   refine WPc.sr ?_
   refine WP.val rfl rfl rfl (Val.move rfl rfl) ?_
   refine WP.val rfl rfl rfl (Val.assign rfl rfl) ?_
   refine WP.nx ?_
   refine WPc.sr ?_
   refine WP.val rfl rfl rfl (Val.move rfl rfl) ?_
   refine WP.val rfl rfl rfl (Val.fieldAddr (j := 0) rfl Ty.fo78_0 rfl rfl) ?_
   refine WP.val rfl rfl rfl (Val.load rfl Ty.sc76 rfl (fun w h => h.cell 0 rfl rfl)) ?_
   refine WP.val rfl rfl rfl (Val.nilCheck rfl rfl) ?_
   refine WP.val rfl rfl rfl (Val.fieldAddr (j := 3) rfl Ty.fo153_2 rfl rfl) ?_
   refine WP.val rfl rfl rfl (Val.load rfl Ty.sc151 rfl (fun w h => h.cell 1 rfl rfl)) ?_
   refine WP.val rfl rfl rfl (Val.move rfl rfl) ?_
   refine WP.val rfl rfl rfl (Val.indexAddr (j := i) (q := o0 + i * 4) rfl Ty.sl151 rfl rfl (by omega) (by omega) (by omega)) ?_
   refine WP.val rfl rfl rfl (Val.nilEqP rfl pz149 rfl rfl) ?_
   refine WP.nx ?_
   refine WPc.condF rfl rfl ?_
   refine WPc.skip ?_
   refine Out.block ?_
   refine Out.next ?_
   refine WPc.region ?_
   refine WP.val rfl rfl rfl (Val.add (z := ((i + 1 : Nat) : Int)) rfl rfl rfl ((w64 (by omega) (by omega)).trans (by omega))) ?_
   refine WP.val rfl rfl rfl (Val.move rfl rfl) ?_
   refine WP.nil ?_
   refine Out.again (i + 1) ?_ ?_ ?_ ?_
   ·
    exact (by first | omega | (dsimp only; omega))
   ·
    first | omega | (dsimp only; omega)
   ·
    exact (Sub.cons rfl (Sub.cons rfl (Sub.cons rfl (Sub.cons rfl Sub.nil))))
   ·
    exact (fun _ h => h)
  ·
   have h1 : ¬ (((i : Nat) : Int) < ((l.length : Nat) : Int)) := h1
   refine WPc.exit ?_
   refine Out.then_exit ?_
   refine Out.then_exit ?_
   refine Out.block_exit ?_
   refine Out.next ?_
   refine WPc.sr ?_
   refine WP.val rfl rfl rfl (Val.assign rfl rfl) ?_
   refine WP.nx ?_
   refine WPc.ret ?_
   refine Out.drop ?_
   exact Out.ret1 (L' := _) Try.results37 rfl ⟨congrArg (Value.int .i64) (show _ = fg (l.map (·.1)) at_ l.length by rw [hfg]), rfl⟩ (fun _ h => h)
 ·
  simp only [Value.slice.injEq, Option.some.injEq, Addr.mk.injEq, and_true, true_and] at he
  obtain ⟨⟨rfl, rfl⟩, rfl⟩ := he
  refine WPc.region ?_
  refine WP.val rfl rfl rfl (Val.fieldAddr (j := 0) rfl Ty.fo78_0 rfl rfl) ?_
  refine WP.val rfl rfl rfl (Val.load rfl Ty.sc76 rfl (fun w h => h.cell 2 rfl rfl)) ?_
  refine WP.val rfl rfl rfl (Val.nilCheck rfl rfl) ?_
  refine WP.val rfl rfl rfl (Val.fieldAddr (j := 3) rfl Ty.fo153_2 rfl rfl) ?_
  refine WP.val rfl rfl rfl (Val.load rfl Ty.sc151 rfl (fun w h => h.cell 0 rfl rfl)) ?_
  refine WP.val rfl rfl rfl (Val.len rfl Ty.sl151 rfl) ?_
  refine WP.val rfl rfl rfl (Val.move rfl rfl) ?_
  refine WP.nx ?_
  refine WPc.block ?_
  refine WPc.perm pl1 ?_
  refine WPc.perm pl1 ?_
  refine WPc.perm pl2 ?_
  refine WPc.loop (ι := Nat) (fun i => i ≤ k) (fun i => [(2, .pointer (some ⟨b1, 0, none⟩)), (5, .pointer (some ⟨b0, o0 + k * 4, none⟩)), (16, .int .i64 (((l.length : Nat) : Int))), (17, .int .i64 (((i : Nat) : Int)))]) (fun i => Blk b1 [.pointer (some ⟨b, 0, none⟩)] 78 :: Blk b [.slice ka kn kc, .int .i64 (md.m), .int .i64 (md.s), .slice (some ⟨b0, o0, none⟩) l.length c0] 153 :: A :: F) (fun i => l.length - i) 0 (Nat.zero_le _) ((Sub.cons rfl (Sub.cons rfl (Sub.cons rfl (Sub.cons rfl Sub.nil))))) (fun _ h => h) ?_
  rintro i hi
  show WPc _ _ _ _ _ [(2, .pointer (some ⟨b1, 0, none⟩)), (5, .pointer (some ⟨b0, o0 + k * 4, none⟩)), (16, .int .i64 (((l.length : Nat) : Int))), (17, .int .i64 (((i : Nat) : Int)))] _
  replace hi : i ≤ k := hi
  refine WPc.sr ?_
  refine WP.val rfl rfl rfl (Val.lss rfl rfl rfl) ?_
  refine WP.nx ?_
  refine WPc.seq ?_
  refine WPc.ifP rfl (fun h2 => ?_) (fun h2 => ?_)
  ·
   have h2 : (((i : Nat) : Int) < ((l.length : Nat) : Int)) := h2
   refine WPc.skip ?_
   refine Out.next ?_
   refine WPc.seq ?_
   refine WPc.block ?_
   refine WPc.sr ?_
   refine WP.val rfl rfl rfl (Val.move rfl rfl) ?_
   refine WP.val rfl rfl rfl (Val.assign rfl rfl) ?_
   refine WP.nx ?_
   refine WPc.sr ?_
   refine WP.val rfl rfl rfl (Val.move rfl rfl) ?_
   refine WP.val rfl rfl rfl (Val.fieldAddr (j := 0) rfl Ty.fo78_0 rfl rfl) ?_
   refine WP.val rfl rfl rfl (Val.load rfl Ty.sc76 rfl (fun w h => h.cell 0 rfl rfl)) ?_
   refine WP.val rfl rfl rfl (Val.nilCheck rfl rfl) ?_
   refine WP.val rfl rfl rfl (Val.fieldAddr (j := 3) rfl Ty.fo153_2 rfl rfl) ?_
   refine WP.val rfl rfl rfl (Val.load rfl Ty.sc151 rfl (fun w h => h.cell 1 rfl rfl)) ?_
   refine WP.val rfl rfl rfl (Val.move rfl rfl) ?_
   refine WP.val rfl rfl rfl (Val.indexAddr (j := i) (q := o0 + i * 4) rfl Ty.sl151 rfl rfl (by omega) (by omega) (by omega)) ?_
   refine WP.val rfl rfl rfl (Val.eqOffB rfl pz149 pe149 rfl rfl) ?_
   refine WP.nx ?_
   refine WPc.ifP rfl (fun h3 => ?_) (fun h3 => ?_)
   ·
    have h3 : (o0 + k * 4 = o0 + i * 4) := h3
    refine WPc.sr ?_
    refine WP.val rfl rfl rfl (Val.move rfl rfl) ?_
    refine WP.val rfl rfl rfl (Val.assign rfl rfl) ?_
    refine WP.nx ?_
    refine WPc.ret ?_
    refine Out.block_ret ?_
    refine Out.then_ret ?_
    refine Out.then_ret ?_
    refine Out.block_ret ?_
    refine Out.then_ret ?_
    refine Out.drop ?_
    exact Out.ret1 (L' := _) Try.results37 rfl ⟨congrArg (Value.int .i64) (show _ = fg (l.map (·.1)) at_ l.length by rw [hfg]; omega), rfl⟩ (fun _ h => h)
   ·
    have h3 : ¬ (o0 + k * 4 = o0 + i * 4) := h3
    refine WPc.skip ?_
    refine Out.block ?_
    refine Out.next ?_
    refine WPc.region ?_
    refine WP.val rfl rfl rfl (Val.add (z := ((i + 1 : Nat) : Int)) rfl rfl rfl ((w64 (by omega) (by omega)).trans (by omega))) ?_
    refine WP.val rfl rfl rfl (Val.move rfl rfl) ?_
    refine WP.nil ?_
    refine Out.again (i + 1) ?_ ?_ ?_ ?_
    ·
     exact (by first | omega | (dsimp only; omega))
    ·
     first | omega | (dsimp only; omega)
    ·
     exact (Sub.cons rfl (Sub.cons rfl (Sub.cons rfl (Sub.cons rfl Sub.nil))))
    ·
     exact (fun _ h => h)
  ·
   have h2 : ¬ (((i : Nat) : Int) < ((l.length : Nat) : Int)) := h2
   exfalso; omega

theorem find_spec (A : HProp) (b : Nat) (ka : Option Addr) (kn kc : Nat) (md : Rv) (at_ : Int) (l : List GV) (hsm : Small (l.map (·.1))) (hin : ∀ p ∈ l, Rd A 2 Rv.cells p.2 p.1.revs) (va : Value) (hva : Rd A 4 GV.cells va l) : Does Try.prog 37 [.agg #[.pointer (some ⟨b, 0, none⟩)], .int .i64 (at_)] [Blk b [.slice ka kn kc, .int .i64 (md.m), .int .i64 (md.s), va] 153, A] (fun v L => v = .int .i64 (fg (l.map (·.1)) at_ l.length) ∧ L = [Blk b [.slice ka kn kc, .int .i64 md.m, .int .i64 md.s, va] 153, A]) := by
 rcases hva with ⟨b0, o0, c0, rfl, hr⟩ | ⟨rfl, a, c, rfl⟩
 ·
  exact find_row A b ka kn kc md at_ l hsm hin b0 o0 c0 hr
 ·
  exact find_nil A b ka kn kc md at_ a c

end Go.Proofs.Ythicijpjpijdjaa.Kq

