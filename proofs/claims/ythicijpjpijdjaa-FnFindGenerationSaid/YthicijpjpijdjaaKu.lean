import Derived.Test.YthicijpjpijdjaaKt
namespace Go.Proofs.Ythicijpjpijdjaa.Ku
open Go.RowKit Go.Proofs.Ythicijpjpijdjaa Go.Proofs.Ythicijpjpijdjaa.Sl Go.Proofs.Ythicijpjpijdjaa.KyP Go.Proofs.Ythicijpjpijdjaa.Ka Go.Proofs.Ythicijpjpijdjaa.Kb Go.Proofs.Ythicijpjpijdjaa.Kc Go.Proofs.Ythicijpjpijdjaa.Kd Go.Proofs.Ythicijpjpijdjaa.Ke Go.Proofs.Ythicijpjpijdjaa.Kf Go.Proofs.Ythicijpjpijdjaa.Kg Go.Proofs.Ythicijpjpijdjaa.Kh Go.Proofs.Ythicijpjpijdjaa.Ki Go.Proofs.Ythicijpjpijdjaa.Kj Go.Proofs.Ythicijpjpijdjaa.Kk Go.Proofs.Ythicijpjpijdjaa.Kl Go.Proofs.Ythicijpjpijdjaa.Km Go.Proofs.Ythicijpjpijdjaa.Kn Go.Proofs.Ythicijpjpijdjaa.Ko Go.Proofs.Ythicijpjpijdjaa.Kp Go.Proofs.Ythicijpjpijdjaa.Kq Go.Proofs.Ythicijpjpijdjaa.Kr Go.Proofs.Ythicijpjpijdjaa.Ks Go.Proofs.Ythicijpjpijdjaa.Kt
set_option linter.unusedVariables false
set_option linter.unusedSimpArgs false
set_option linter.unusedSectionVars false


/-- a key's index: its last revision and its lives -/
structure KI where
  md : Rv
  gs : List Gn
def GVO (p : GV) : HProp := OwnO 81 2 p.2 p.1.revs.length (flatOf Rv.cells p.1.revs)
abbrev kcells (ka : Option Addr) (kn kc : Nat) (md : Rv) (vg : Value) : List Value := [.slice ka kn kc, .int .i64 md.m, .int .i64 md.s, vg]
/-- it stands in memory, at b -/
def KIs (b : Nat) (ka : Option Addr) (kn kc : Nat) (s : KI) : HProp := Ex fun q : Value × List GV => Sep [Pure (q.2.map (·.1) = s.gs), Blk b (kcells ka kn kc s.md q.1) 153, OwnO 155 4 q.1 q.2.length (flatOf GV.cells q.2), Kds GVO q.2]
theorem kdsO_rdB {W : World} : ∀ (gl : List GV) (w : World) (L : List HProp), Sat W (Kds GVO gl :: L) w → ∃ E : HProp, (∀ p ∈ gl, Rd E 2 Rv.cells p.2 p.1.revs) ∧ Sat W (E :: L) w ∧ ∀ w L, Sat W (E :: L) w → Sat W (Kds GVO gl :: L) w
  | [], w, L, h => ⟨Pure True, fun p hp => (by cases hp), Sat.pure_mk trivial h.drop, fun w L h => Sat.kNil h.drop⟩
  | p :: gl, w, L, h => by
    have h1 := h.kCons
    obtain ⟨A, hA, h2, h3⟩ := ownO_rdB (cf := Rv.cells) (l := p.1.revs) Rv.len h1
    obtain ⟨E, hE, h4, h5⟩ := kdsO_rdB gl w (A :: L) (h2.perm (List.Perm.swap _ _ _))
    refine ⟨Sep [A, E], ?_, Sat.sep_mk (M := [A, E]) (h4.perm (List.Perm.swap _ _ _)), fun w L h => ?_⟩
    · intro q hq
      rcases List.mem_cons.1 hq with rfl | hq
      · exact hA.mono (fun w hw => Holds.sep2a hw)
      · exact (hE q hq).mono (fun w hw => Holds.sep2b hw)
    · have h6 : Sat W (A :: E :: L) w := h.sep
      have h7 := h5 w (A :: L) (h6.perm (List.Perm.swap _ _ _))
      exact (h3 w (Kds GVO gl :: L) (h7.perm (List.Perm.swap _ _ _))).kConsMk
theorem gensO_rd {W w : World} {e : TypeId} {vg : Value} {gl : List GV} {L : List HProp} (h : Sat W (OwnO e 4 vg gl.length (flatOf GV.cells gl) :: Kds GVO gl :: L) w) : ∃ E : HProp, RdG E vg gl ∧ Sat W (E :: L) w ∧ ∀ w L, Sat W (E :: L) w → Sat W (OwnO e 4 vg gl.length (flatOf GV.cells gl) :: Kds GVO gl :: L) w := by
  obtain ⟨A, hA, h2, h3⟩ := ownO_rdB GV.len h
  obtain ⟨E, hE, h4, h5⟩ := kdsO_rdB gl w (A :: L) (h2.perm (List.Perm.swap _ _ _))
  refine ⟨Sep [A, E], ⟨hA.mono (fun w hw => Holds.sep2a hw), fun p hp => (hE p hp).mono (fun w hw => Holds.sep2b hw)⟩, Sat.sep_mk (M := [A, E]) (h4.perm (List.Perm.swap _ _ _)), fun w L h => ?_⟩
  have h6 : Sat W (A :: E :: L) w := h.sep
  have h7 := h5 w (A :: L) (h6.perm (List.Perm.swap _ _ _))
  exact h3 w (Kds GVO gl :: L) (h7.perm (List.Perm.swap _ _ _))
theorem kds_toO {W : World} : ∀ (gl : List GV) (w : World) (L : List HProp), Sat W (Kds (GVPe 81) gl :: L) w → Sat W (Kds GVO gl :: L) w
  | [], w, L, h => Sat.kNil h.drop
  | p :: gl, w, L, h => by
    have h1 : Sat W (GVO p :: Kds (GVPe 81) gl :: L) w := (h.kCons).ownToO
    have h2 := kds_toO gl w (GVO p :: L) (h1.perm (List.Perm.swap _ _ _))
    exact (h2.perm (List.Perm.swap _ _ _)).kConsMk
theorem kis_mk {W w : World} {b : Nat} {ka : Option Addr} {kn kc : Nat} {s : KI} {vg : Value} {gl : List GV} {L : List HProp} (hg : gl.map (·.1) = s.gs) (h : Sat W (Blk b (kcells ka kn kc s.md vg) 153 :: OwnO 155 4 vg gl.length (flatOf GV.cells gl) :: Kds GVO gl :: L) w) : Sat W (KIs b ka kn kc s :: L) w :=
  Sat.ex_mk (vg, gl) (Sat.sep_mk (M := [Pure (gl.map (·.1) = s.gs), Blk b (kcells ka kn kc s.md vg) 153, OwnO 155 4 vg gl.length (flatOf GV.cells gl), Kds GVO gl]) (Sat.pure_mk hg h))
theorem kis_new {W w : World} {b : Nat} {ka : Option Addr} {kn kc : Nat} {s : KI} {vg : Value} {gl : List GV} {L : List HProp} (hg : gl.map (·.1) = s.gs) (h : Sat W (Blk b (kcells ka kn kc s.md vg) 153 :: Own 155 4 vg gl.length (flatOf GV.cells gl) :: Kds (GVPe 81) gl :: L) w) : Sat W (KIs b ka kn kc s :: L) w := by
  have h1 := (h.perm (List.Perm.swap _ _ _)).ownToO
  have h2 : Sat W (Kds (GVPe 81) gl :: Blk b (kcells ka kn kc s.md vg) 153 :: OwnO 155 4 vg gl.length (flatOf GV.cells gl) :: L) w := h1.perm (by
    refine List.Perm.trans ?_ (List.Perm.trans (List.Perm.cons _ (List.Perm.swap _ _ _)) (List.Perm.swap _ _ _)) |>.symm.symm
    exact List.Perm.swap _ _ _)
  have h3 := kds_toO gl w _ h2
  exact kis_mk hg (h3.perm ((List.Perm.swap _ _ _).trans (List.Perm.cons _ (List.Perm.swap _ _ _))))
theorem kis_own {W w : World} {b : Nat} {ka : Option Addr} {kn kc : Nat} {s : KI} {L : List HProp} (h : Sat W (KIs b ka kn kc s :: L) w) : ∃ q : Value × List GV, Sat W (Pure (q.2.map (·.1) = s.gs) :: Blk b (kcells ka kn kc s.md q.1) 153 :: OwnO 155 4 q.1 q.2.length (flatOf GV.cells q.2) :: Kds GVO q.2 :: L) w := by
  obtain ⟨q, h⟩ := h.ex
  exact ⟨q, h.sep⟩
theorem kis_rd {W w : World} {b : Nat} {ka : Option Addr} {kn kc : Nat} {s : KI} {L : List HProp} (h : Sat W (KIs b ka kn kc s :: L) w) : ∃ q : Value × List GV × HProp, Sat W (Pure (q.2.1.map (·.1) = s.gs ∧ RdG q.2.2 q.1 q.2.1 ∧ ∀ w L, Sat W (Blk b (kcells ka kn kc s.md q.1) 153 :: q.2.2 :: L) w → Sat W (KIs b ka kn kc s :: L) w) :: Blk b (kcells ka kn kc s.md q.1) 153 :: q.2.2 :: L) w := by
  obtain ⟨q, h⟩ := kis_own h
  have hg := h.pure
  have h1 := h.drop
  have h2 : Sat W (OwnO 155 4 q.1 q.2.length (flatOf GV.cells q.2) :: Kds GVO q.2 :: Blk b (kcells ka kn kc s.md q.1) 153 :: L) w := h1.perm ((List.Perm.swap _ _ _).trans (List.Perm.cons _ (List.Perm.swap _ _ _)))
  obtain ⟨E, hE, h3, h4⟩ := gensO_rd h2
  refine ⟨(q.1, q.2, E), Sat.pure_mk ⟨hg, hE, fun w L h => ?_⟩ (h3.perm (List.Perm.swap _ _ _))⟩
  have h5 := h4 w _ (h.perm (List.Perm.swap _ _ _))
  exact kis_mk hg (h5.perm ((List.Perm.cons _ (List.Perm.swap _ _ _)).trans (List.Perm.swap _ _ _)))
def emp (gs : List Gn) : Bool := match gs with
  | [g] => decide (g.revs.length = 0)
  | _ => false
theorem emp_no {gs : List Gn} (h : gs.length ≠ 1) : emp gs = false := by
  unfold emp
  split
  · exact absurd rfl h
  · rfl
theorem emp_one {gs : List Gn} {g : Gn} (h1 : gs.length = 1) (h : gs[0]? = some g) : emp gs = decide (g.revs.length = 0) := by
  match gs, h1, h with
  | [x], _, h => obtain rfl : x = g := by simpa using h
                 rfl
set_option maxRecDepth 100000 in
set_option maxHeartbeats 2000000 in
theorem kidump_spec (b : Nat) (ka : Option Addr) (kn kc : Nat) (s : KI) (hsm : Small s.gs) : Does Try.prog 79 [.agg #[.pointer (some ⟨b, 0, none⟩)]] [KIs b ka kn kc s] (fun v L => ∃ (v2 : Value) (g2 : List GV), v = .agg #[.int .i64 s.md.m, .int .i64 s.md.s, v2] ∧ g2.map (·.1) = s.gs ∧ L = [Own 135 4 v2 g2.length (flatOf GV.cells g2), Kds (GVPe 81) g2, KIs b ka kn kc s]) := by
  refine Does.enter 6 Try.func79 rfl rfl rfl fun W F => ?_
  show WPc _ _ _ _ _ [(0, .agg #[.pointer (some ⟨b, 0, none⟩)])] (KIs b ka kn kc s :: F)
  refine WPc.seq ?_
  refine WPc.region ?_
  refine WP.eff rfl rfl rfl (Eff.box (C := [.pointer (some ⟨b, 0, none⟩)]) rfl rfl rfl) ?_
  rintro _ _ ⟨b1, rfl, rfl⟩
  refine WP.eff rfl rfl rfl (Eff.alloc rfl Ty.z84) ?_
  rintro _ _ ⟨b2, rfl, rfl⟩
  refine WP.nil ?_
  refine Out.next ?_
  refine WPc.seq ?_
  refine WPc.perm pl2 ?_
  refine WPc.open (fun w h => kis_rd h) ?_
  rintro ⟨vg, gl, E⟩
  refine WPc.pure (fun hkis => ?_)
  obtain ⟨hgl, hG, back⟩ := hkis
  dsimp only at hgl hG back
  have hsg : Small (gl.map (·.1)) := by rw [hgl]; exact hsm
  show WPc _ _ _ _ _ _ (Blk b [.slice ka kn kc, .int .i64 (s.md.m), .int .i64 (s.md.s), vg] 153 :: E :: Blk b2 [.int .i64 0, .int .i64 0, .slice none 0 0] 84 :: Blk b1 [.pointer (some ⟨b, 0, none⟩)] 78 :: F)
  refine WPc.region ?_
  refine WP.val rfl rfl rfl (Val.fieldAddr (j := 0) rfl Ty.fo78_0 rfl rfl) ?_
  refine WP.val rfl rfl rfl (Val.load rfl Ty.sc76 rfl (fun w h => h.cell 3 rfl rfl)) ?_
  refine WP.perm pl1 ?_
  refine WP.perm pl1 ?_
  refine WP.eff rfl rfl rfl (Eff.call rfl rfl Try.call106 (zzout_spec E b ka kn kc s.md gl hsg hG.inn vg hG.rd)) ?_
  rintro _ _ ⟨_, ⟨v2, g2, rfl, hg2, rfl⟩, rfl⟩
  show WP _ _ _ _ _ _ _ (Own 135 4 v2 g2.length (flatOf GV.cells g2) :: Kds (GVPe 81) g2 :: Blk b [.slice ka kn kc, .int .i64 (s.md.m), .int .i64 (s.md.s), vg] 153 :: E :: Blk b2 [.int .i64 0, .int .i64 0, .slice none 0 0] 84 :: Blk b1 [.pointer (some ⟨b, 0, none⟩)] 78 :: F)
  refine WP.perm pl3 ?_
  refine WP.perm pl3 ?_
  refine WP.conv (fun w h => back w _ h) ?_
  show WP _ _ _ _ _ _ _ (KIs b ka kn kc s :: Own 135 4 v2 g2.length (flatOf GV.cells g2) :: Kds (GVPe 81) g2 :: Blk b2 [.int .i64 0, .int .i64 0, .slice none 0 0] 84 :: Blk b1 [.pointer (some ⟨b, 0, none⟩)] 78 :: F)
  refine WP.perm pl1 ?_
  refine WP.fact (fun w h => own_oneCell h) (fun on2 => ?_)
  refine WP.perm pl3 ?_
  refine WP.eff0 rfl rfl (Eff.storeAgg (cs := [.int .i64 (s.md.m), .int .i64 (s.md.s), v2]) (C' := [.int .i64 (s.md.m), .int .i64 (s.md.s), v2]) rfl Ty.ag84 rfl rfl rfl (by simp only [List.all_cons, List.all_nil, Bool.and_true, oc_int, oc_str, oc_bool, oc_ptr, oc_slice, oc_iface, oc_map, on2]) (by simp) rfl) ?_
  rintro _ _ rfl
  refine WP.nil ?_
  refine Out.next ?_
  refine WPc.ret ?_
  refine Out.perm pl4 ?_
  refine Out.drop ?_
  refine Out.perm pl2 ?_
  refine Out.perm pl3 ?_
  refine Out.perm pl3 ?_
  refine Out.perm pl3 ?_
  exact Out.retRun (L' := _) (results_cell (cs := _) Try.results79 Ty.ag84 rfl rfl (fun w h => h.range 0 rfl rfl)) ⟨v2, g2, rfl, hg2.trans hgl, rfl⟩ (fun w h => h.drop)
set_option maxRecDepth 100000 in
set_option maxHeartbeats 2000000 in
theorem gempty_nil (z : Nat) : Does Try.prog 112 [.pointer none] [] (fun v L => v = .bool true ∧ L = []) := by
  refine Does.enter 13 Try.func112 rfl rfl rfl fun W F => ?_
  show WPc _ _ _ _ _ [(0, .pointer none)] (F)
  refine WPc.seq ?_
  refine WPc.region ?_
  refine WP.val rfl rfl rfl (Val.assign rfl rfl) ?_
  refine WP.nil ?_
  refine Out.next ?_
  refine WPc.seq ?_
  refine WPc.region ?_
  refine WP.val rfl rfl rfl (Val.move rfl rfl) ?_
  refine WP.val rfl rfl rfl (Val.nilP rfl Ty.ip149 rfl rfl) ?_
  refine WP.val rfl rfl rfl (Val.move rfl rfl) ?_
  refine WP.skip rfl rfl rfl rfl rfl rfl rfl ?_
  refine WP.skip rfl rfl rfl rfl rfl rfl rfl ?_
  refine WP.skip rfl rfl rfl rfl rfl rfl rfl ?_
  refine WP.skip rfl rfl rfl rfl rfl rfl rfl ?_
  refine WP.skip rfl rfl rfl rfl rfl rfl rfl ?_
  refine WP.skip rfl rfl rfl rfl rfl rfl rfl ?_
  refine WP.val rfl rfl rfl (Val.pickT rfl rfl rfl) ?_
  refine WP.val rfl rfl rfl (Val.assign rfl rfl) ?_
  refine WP.nil ?_
  refine Out.next ?_
  refine WPc.ret ?_
  exact Out.ret1 (L' := []) Try.results112 rfl ⟨rfl, rfl⟩ (fun _ h => h)
set_option maxRecDepth 100000 in
set_option maxHeartbeats 2000000 in
theorem gempty_row (A : HProp) (l : List GV) (b0 o0 : Nat) (hr : ∀ w, Holds A w → ∀ i x, l[i]? = some x → w.rangeAt b0 (o0 + i * 4) (GV.cells x)) (k : Nat) (g : Gn) (u : Value) (hx : l[k]? = some (g, u)) (hin1 : Rd A 2 Rv.cells u g.revs) : Does Try.prog 112 [.pointer (some ⟨b0, o0 + k * 4, none⟩)] [A] (fun v L => v = .bool (decide (g.revs.length = 0)) ∧ L = [A]) := by
  refine Does.enter 13 Try.func112 rfl rfl rfl fun W F => ?_
  show WPc _ _ _ _ _ [(0, .pointer (some ⟨b0, o0 + k * 4, none⟩))] (A :: F)
  refine WPc.seq ?_
  refine WPc.region ?_
  refine WP.val rfl rfl rfl (Val.assign rfl rfl) ?_
  refine WP.nil ?_
  refine Out.next ?_
  refine WPc.seq ?_
  refine WPc.region ?_
  refine WP.val rfl rfl rfl (Val.move rfl rfl) ?_
  refine WP.val rfl rfl rfl (Val.nilP rfl Ty.ip149 rfl rfl) ?_
  refine WP.val rfl rfl rfl (Val.move rfl rfl) ?_
  refine WP.valG rfl rfl rfl rfl rfl rfl rfl (Val.move rfl rfl) ?_
  refine WP.valG rfl rfl rfl rfl rfl rfl rfl (Val.nilCheck rfl rfl) ?_
  refine WP.valG rfl rfl rfl rfl rfl rfl rfl (Val.fieldAddr (j := o0 + k * 4 + 3) rfl Ty.fo155_2 rfl rfl) ?_
  refine WP.valG rfl rfl rfl rfl rfl rfl rfl (Val.load (v := u) rfl Ty.sc132 rfl (fun w h => hr w (h.at 0 rfl) k (g, u) hx 3 _ rfl)) ?_
  refine WP.valG rfl rfl rfl rfl rfl rfl rfl (Rd.len hin1 rfl Ty.sl132 rfl) ?_
  refine WP.valG rfl rfl rfl rfl rfl rfl rfl (Val.eql rfl rfl rfl) ?_
  refine WP.val rfl rfl rfl (Val.pickF rfl rfl rfl) ?_
  refine WP.val rfl rfl rfl (Val.assign rfl rfl) ?_
  refine WP.nil ?_
  refine Out.next ?_
  refine WPc.ret ?_
  exact Out.ret1 (L' := _) Try.results112 rfl ⟨congrArg Value.bool (decide_eq_decide.2 (by omega)), rfl⟩ (fun _ h => h)

end Go.Proofs.Ythicijpjpijdjaa.Ku
