import Derived.Test.YthicijpjpijdjaaNg
namespace Go.Proofs.Ythicijpjpijdjaa.Ku
open Go.RowKit Go.Proofs.Ythicijpjpijdjaa Go.Proofs.Ythicijpjpijdjaa.Sl Go.Proofs.Ythicijpjpijdjaa.KyP Go.Proofs.Ythicijpjpijdjaa.Ka Go.Proofs.Ythicijpjpijdjaa.Kb Go.Proofs.Ythicijpjpijdjaa.Kc Go.Proofs.Ythicijpjpijdjaa.Kd Go.Proofs.Ythicijpjpijdjaa.Ke Go.Proofs.Ythicijpjpijdjaa.Kf Go.Proofs.Ythicijpjpijdjaa.Kg Go.Proofs.Ythicijpjpijdjaa.Kh Go.Proofs.Ythicijpjpijdjaa.Ki Go.Proofs.Ythicijpjpijdjaa.Kj Go.Proofs.Ythicijpjpijdjaa.Kk Go.Proofs.Ythicijpjpijdjaa.Kl Go.Proofs.Ythicijpjpijdjaa.Km Go.Proofs.Ythicijpjpijdjaa.Kn Go.Proofs.Ythicijpjpijdjaa.Ko Go.Proofs.Ythicijpjpijdjaa.Kp Go.Proofs.Ythicijpjpijdjaa.Kq Go.Proofs.Ythicijpjpijdjaa.Kr Go.Proofs.Ythicijpjpijdjaa.Ks Go.Proofs.Ythicijpjpijdjaa.Kt
set_option linter.unusedVariables false
set_option linter.unusedSimpArgs false
set_option linter.unusedSectionVars false


/-- a key's index: its last revision and its lives -/
structure KI where
  md : Rv
  gs : List Gn
def GVO (p : GV) : HProp := OwnO 81 2 p.2 p.1.revs.length (flatOf Rv.cells p.1.revs)
abbrev kcells (ka : Option Addr) (kn kc : Nat) (md : Rv) (vg : Value) : List Value := [.slice ka kn kc, .int .i64 md.m, .int .i64 md.s, vg]
/-- it stands in memory, at b -/
def KIs (b : Nat) (ka : Option Addr) (kn kc : Nat) (s : KI) : HProp := Ex fun q : Value × List GV => Sep [Pure (q.2.map (·.1) = s.gs), Blk b (kcells ka kn kc s.md q.1) 153, OwnO 155 4 q.1 q.2.length (flatOf GV.cells q.2), Kds GVO q.2]
theorem kdsO_rdB {W : World} : ∀ (gl : List GV) (w : World) (L : List HProp), Sat W (Kds GVO gl :: L) w → ∃ E : HProp, (∀ p ∈ gl, Rd E 2 Rv.cells p.2 p.1.revs) ∧ Sat W (E :: L) w ∧ ∀ w L, Sat W (E :: L) w → Sat W (Kds GVO gl :: L) w
  | [], w, L, h => ⟨Pure True, fun p hp => (by cases hp), Sat.pure_mk trivial h.drop, fun w L h => Sat.kNil h.drop⟩
  | p :: gl, w, L, h => by
    have h1 := h.kCons
    obtain ⟨A, hA, h2, h3⟩ := ownO_rdB (cf := Rv.cells) (l := p.1.revs) Rv.len h1
    obtain ⟨E, hE, h4, h5⟩ := kdsO_rdB gl w (A :: L) (h2.perm (List.Perm.swap _ _ _))
    refine ⟨Sep [A, E], ?_, Sat.sep_mk (M := [A, E]) (h4.perm (List.Perm.swap _ _ _)), fun w L h => ?_⟩
    · intro q hq
      rcases List.mem_cons.1 hq with rfl | hq
      · exact hA.mono (fun w hw => Holds.sep2a hw)
      · exact (hE q hq).mono (fun w hw => Holds.sep2b hw)
    · have h6 : Sat W (A :: E :: L) w := h.sep
      have h7 := h5 w (A :: L) (h6.perm (List.Perm.swap _ _ _))
      exact (h3 w (Kds GVO gl :: L) (h7.perm (List.Perm.swap _ _ _))).kConsMk
theorem gensO_rd {W w : World} {e : TypeId} {vg : Value} {gl : List GV} {L : List HProp} (h : Sat W (OwnO e 4 vg gl.length (flatOf GV.cells gl) :: Kds GVO gl :: L) w) : ∃ E : HProp, RdG E vg gl ∧ Sat W (E :: L) w ∧ ∀ w L, Sat W (E :: L) w → Sat W (OwnO e 4 vg gl.length (flatOf GV.cells gl) :: Kds GVO gl :: L) w := by
  obtain ⟨A, hA, h2, h3⟩ := ownO_rdB GV.len h
  obtain ⟨E, hE, h4, h5⟩ := kdsO_rdB gl w (A :: L) (h2.perm (List.Perm.swap _ _ _))
  refine ⟨Sep [A, E], ⟨hA.mono (fun w hw => Holds.sep2a hw), fun p hp => (hE p hp).mono (fun w hw => Holds.sep2b hw)⟩, Sat.sep_mk (M := [A, E]) (h4.perm (List.Perm.swap _ _ _)), fun w L h => ?_⟩
  have h6 : Sat W (A :: E :: L) w := h.sep
  have h7 := h5 w (A :: L) (h6.perm (List.Perm.swap _ _ _))
  exact h3 w (Kds GVO gl :: L) (h7.perm (List.Perm.swap _ _ _))
theorem kds_toO {W : World} : ∀ (gl : List GV) (w : World) (L : List HProp), Sat W (Kds (GVPe 81) gl :: L) w → Sat W (Kds GVO gl :: L) w
  | [], w, L, h => Sat.kNil h.drop
  | p :: gl, w, L, h => by
    have h1 : Sat W (GVO p :: Kds (GVPe 81) gl :: L) w := (h.kCons).ownToO
    have h2 := kds_toO gl w (GVO p :: L) (h1.perm (List.Perm.swap _ _ _))
    exact (h2.perm (List.Perm.swap _ _ _)).kConsMk
theorem kis_mk {W w : World} {b : Nat} {ka : Option Addr} {kn kc : Nat} {s : KI} {vg : Value} {gl : List GV} {L : List HProp} (hg : gl.map (·.1) = s.gs) (h : Sat W (Blk b (kcells ka kn kc s.md vg) 153 :: OwnO 155 4 vg gl.length (flatOf GV.cells gl) :: Kds GVO gl :: L) w) : Sat W (KIs b ka kn kc s :: L) w :=
  Sat.ex_mk (vg, gl) (Sat.sep_mk (M := [Pure (gl.map (·.1) = s.gs), Blk b (kcells ka kn kc s.md vg) 153, OwnO 155 4 vg gl.length (flatOf GV.cells gl), Kds GVO gl]) (Sat.pure_mk hg h))
theorem kis_new {W w : World} {b : Nat} {ka : Option Addr} {kn kc : Nat} {s : KI} {vg : Value} {gl : List GV} {L : List HProp} (hg : gl.map (·.1) = s.gs) (h : Sat W (Blk b (kcells ka kn kc s.md vg) 153 :: Own 155 4 vg gl.length (flatOf GV.cells gl) :: Kds (GVPe 81) gl :: L) w) : Sat W (KIs b ka kn kc s :: L) w := by
  have h1 := (h.perm (List.Perm.swap _ _ _)).ownToO
  have h2 : Sat W (Kds (GVPe 81) gl :: Blk b (kcells ka kn kc s.md vg) 153 :: OwnO 155 4 vg gl.length (flatOf GV.cells gl) :: L) w := h1.perm (by
    refine List.Perm.trans ?_ (List.Perm.trans (List.Perm.cons _ (List.Perm.swap _ _ _)) (List.Perm.swap _ _ _)) |>.symm.symm
    exact List.Perm.swap _ _ _)
  have h3 := kds_toO gl w _ h2
  exact kis_mk hg (h3.perm ((List.Perm.swap _ _ _).trans (List.Perm.cons _ (List.Perm.swap _ _ _))))
theorem kis_own {W w : World} {b : Nat} {ka : Option Addr} {kn kc : Nat} {s : KI} {L : List HProp} (h : Sat W (KIs b ka kn kc s :: L) w) : ∃ q : Value × List GV, Sat W (Pure (q.2.map (·.1) = s.gs) :: Blk b (kcells ka kn kc s.md q.1) 153 :: OwnO 155 4 q.1 q.2.length (flatOf GV.cells q.2) :: Kds GVO q.2 :: L) w := by
  obtain ⟨q, h⟩ := h.ex
  exact ⟨q, h.sep⟩
theorem kis_rd {W w : World} {b : Nat} {ka : Option Addr} {kn kc : Nat} {s : KI} {L : List HProp} (h : Sat W (KIs b ka kn kc s :: L) w) : ∃ q : Value × List GV × HProp, Sat W (Pure (q.2.1.map (·.1) = s.gs ∧ RdG q.2.2 q.1 q.2.1 ∧ ∀ w L, Sat W (Blk b (kcells ka kn kc s.md q.1) 153 :: q.2.2 :: L) w → Sat W (KIs b ka kn kc s :: L) w) :: Blk b (kcells ka kn kc s.md q.1) 153 :: q.2.2 :: L) w := by
  obtain ⟨q, h⟩ := kis_own h
  have hg := h.pure
  have h1 := h.drop
  have h2 : Sat W (OwnO 155 4 q.1 q.2.length (flatOf GV.cells q.2) :: Kds GVO q.2 :: Blk b (kcells ka kn kc s.md q.1) 153 :: L) w := h1.perm ((List.Perm.swap _ _ _).trans (List.Perm.cons _ (List.Perm.swap _ _ _)))
  obtain ⟨E, hE, h3, h4⟩ := gensO_rd h2
  refine ⟨(q.1, q.2, E), Sat.pure_mk ⟨hg, hE, fun w L h => ?_⟩ (h3.perm (List.Perm.swap _ _ _))⟩
  have h5 := h4 w _ (h.perm (List.Perm.swap _ _ _))
  exact kis_mk hg (h5.perm ((List.Perm.cons _ (List.Perm.swap _ _ _)).trans (List.Perm.swap _ _ _)))
def emp (gs : List Gn) : Bool := match gs with
  | [g] => decide (g.revs.length = 0)
  | _ => false
theorem emp_no {gs : List Gn} (h : gs.length ≠ 1) : emp gs = false := by
  unfold emp
  split
  · exact absurd rfl h
  · rfl
theorem emp_one {gs : List Gn} {g : Gn} (h1 : gs.length = 1) (h : gs[0]? = some g) : emp gs = decide (g.revs.length = 0) := by
  match gs, h1, h with
  | [x], _, h => obtain rfl : x = g := by simpa using h
                 rfl
set_option maxRecDepth 100000 in
set_option maxHeartbeats 2000000 in
theorem kidump_spec (b : Nat) (ka : Option Addr) (kn kc : Nat) (s : KI) (hsm : Small s.gs) : Does Try.prog 79 [.agg #[.pointer (some ⟨b, 0, none⟩)]] [KIs b ka kn kc s] (fun v L => ∃ (v2 : Value) (g2 : List GV), v = .agg #[.int .i64 s.md.m, .int .i64 s.md.s, v2] ∧ g2.map (·.1) = s.gs ∧ L = [Own 135 4 v2 g2.length (flatOf GV.cells g2), Kds (GVPe 81) g2, KIs b ka kn kc s]) := by
  refine Does.enter 6 Try.func79 rfl rfl rfl fun W F => ?_
  show WPc _ _ _ _ _ [(0, .agg #[.pointer (some ⟨b, 0, none⟩)])] (KIs b ka kn kc s :: F)
  refine WPc.seq ?_
  refine WPc.region ?_
  refine WP.eff rfl rfl rfl (Eff.box (C := [.pointer (some ⟨b, 0, none⟩)]) rfl rfl rfl) ?_
  rintro _ _ ⟨b1, rfl, rfl⟩
  refine WP.eff rfl rfl rfl (Eff.alloc rfl Ty.z84) ?_
  rintro _ _ ⟨b2, rfl, rfl⟩
  refine WP.nil ?_
  refine Out.next ?_
  refine WPc.seq ?_
  refine WPc.perm pl2 ?_
  refine WPc.open (fun w h => kis_rd h) ?_
  rintro ⟨vg, gl, E⟩
  refine WPc.pure (fun hkis => ?_)
  obtain ⟨hgl, hG, back⟩ := hkis
  dsimp only at hgl hG back
  have hsg : Small (gl.map (·.1)) := by rw [hgl]; exact hsm
  show WPc _ _ _ _ _ _ (Blk b [.slice ka kn kc, .int .i64 (s.md.m), .int .i64 (s.md.s), vg] 153 :: E :: Blk b2 [.int .i64 0, .int .i64 0, .slice none 0 0] 84 :: Blk b1 [.pointer (some ⟨b, 0, none⟩)] 78 :: F)
  refine WPc.region ?_
  refine WP.val rfl rfl rfl (Val.fieldAddr (j := 0) rfl Ty.fo78_0 rfl rfl) ?_
  refine WP.val rfl rfl rfl (Val.load rfl Ty.sc76 rfl (fun w h => h.cell 3 rfl rfl)) ?_
  refine WP.perm pl1 ?_
  refine WP.perm pl1 ?_
  refine WP.eff rfl rfl rfl (Eff.call rfl rfl Try.call106 (zzout_spec E b ka kn kc s.md gl hsg hG.inn vg hG.rd)) ?_
  rintro _ _ ⟨_, ⟨v2, g2, rfl, hg2, rfl⟩, rfl⟩
  show WP _ _ _ _ _ _ _ (Own 135 4 v2 g2.length (flatOf GV.cells g2) :: Kds (GVPe 81) g2 :: Blk b [.slice ka kn kc, .int .i64 (s.md.m), .int .i64 (s.md.s), vg] 153 :: E :: Blk b2 [.int .i64 0, .int .i64 0, .slice none 0 0] 84 :: Blk b1 [.pointer (some ⟨b, 0, none⟩)] 78 :: F)
  refine WP.perm pl3 ?_
  refine WP.perm pl3 ?_
  refine WP.conv (fun w h => back w _ h) ?_
  show WP _ _ _ _ _ _ _ (KIs b ka kn kc s :: Own 135 4 v2 g2.length (flatOf GV.cells g2) :: Kds (GVPe 81) g2 :: Blk b2 [.int .i64 0, .int .i64 0, .slice none 0 0] 84 :: Blk b1 [.pointer (some ⟨b, 0, none⟩)] 78 :: F)
  refine WP.perm pl1 ?_
  refine WP.fact (fun w h => own_oneCell h) (fun on2 => ?_)
  refine WP.perm pl3 ?_
  refine WP.eff0 rfl rfl (Eff.storeAgg (cs := [.int .i64 (s.md.m), .int .i64 (s.md.s), v2]) (C' := [.int .i64 (s.md.m), .int .i64 (s.md.s), v2]) rfl Ty.ag84 rfl rfl rfl (by simp only [List.all_cons, List.all_nil, Bool.and_true, oc_int, oc_str, oc_bool, oc_ptr, oc_slice, oc_iface, oc_map, on2]) (by simp) rfl) ?_
  rintro _ _ rfl
  refine WP.nil ?_
  refine Out.next ?_
  refine WPc.ret ?_
  refine Out.perm pl4 ?_
  refine Out.drop ?_
  refine Out.perm pl2 ?_
  refine Out.perm pl3 ?_
  refine Out.perm pl3 ?_
  refine Out.perm pl3 ?_
  exact Out.retRun (L' := _) (results_cell (cs := _) Try.results79 Ty.ag84 rfl rfl (fun w h => h.range 0 rfl rfl)) ⟨v2, g2, rfl, hg2.trans hgl, rfl⟩ (fun w h => h.drop)
set_option maxRecDepth 100000 in
set_option maxHeartbeats 2000000 in
theorem gempty_nil (z : Nat) : Does Try.prog 112 [.pointer none] [] (fun v L => v = .bool true ∧ L = []) := by
  refine Does.enter 13 Try.func112 rfl rfl rfl fun W F => ?_
  show WPc _ _ _ _ _ [(0, .pointer none)] (F)
  refine WPc.seq ?_
  refine WPc.region ?_
  refine WP.val rfl rfl rfl (Val.assign rfl rfl) ?_
  refine WP.nil ?_
  refine Out.next ?_
  refine WPc.seq ?_
  refine WPc.region ?_
  refine WP.val rfl rfl rfl (Val.move rfl rfl) ?_
  refine WP.val rfl rfl rfl (Val.nilP rfl Ty.ip149 rfl rfl) ?_
  refine WP.val rfl rfl rfl (Val.move rfl rfl) ?_
  refine WP.skip rfl rfl rfl rfl rfl rfl rfl ?_
  refine WP.skip rfl rfl rfl rfl rfl rfl rfl ?_
  refine WP.skip rfl rfl rfl rfl rfl rfl rfl ?_
  refine WP.skip rfl rfl rfl rfl rfl rfl rfl ?_
  refine WP.skip rfl rfl rfl rfl rfl rfl rfl ?_
  refine WP.skip rfl rfl rfl rfl rfl rfl rfl ?_
  refine WP.val rfl rfl rfl (Val.pickT rfl rfl rfl) ?_
  refine WP.val rfl rfl rfl (Val.assign rfl rfl) ?_
  refine WP.nil ?_
  refine Out.next ?_
  refine WPc.ret ?_
  exact Out.ret1 (L' := []) Try.results112 rfl ⟨rfl, rfl⟩ (fun _ h => h)
set_option maxRecDepth 100000 in
set_option maxHeartbeats 2000000 in
theorem gempty_row (A : HProp) (l : List GV) (b0 o0 : Nat) (hr : ∀ w, Holds A w → ∀ i x, l[i]? = some x → w.rangeAt b0 (o0 + i * 4) (GV.cells x)) (k : Nat) (g : Gn) (u : Value) (hx : l[k]? = some (g, u)) (hin1 : Rd A 2 Rv.cells u g.revs) : Does Try.prog 112 [.pointer (some ⟨b0, o0 + k * 4, none⟩)] [A] (fun v L => v = .bool (decide (g.revs.length = 0)) ∧ L = [A]) := by
  refine Does.enter 13 Try.func112 rfl rfl rfl fun W F => ?_
  show WPc _ _ _ _ _ [(0, .pointer (some ⟨b0, o0 + k * 4, none⟩))] (A :: F)
  refine WPc.seq ?_
  refine WPc.region ?_
  refine WP.val rfl rfl rfl (Val.assign rfl rfl) ?_
  refine WP.nil ?_
  refine Out.next ?_
  refine WPc.seq ?_
  refine WPc.region ?_
  refine WP.val rfl rfl rfl (Val.move rfl rfl) ?_
  refine WP.val rfl rfl rfl (Val.nilP rfl Ty.ip149 rfl rfl) ?_
  refine WP.val rfl rfl rfl (Val.move rfl rfl) ?_
  refine WP.valG rfl rfl rfl rfl rfl rfl rfl (Val.move rfl rfl) ?_
  refine WP.valG rfl rfl rfl rfl rfl rfl rfl (Val.nilCheck rfl rfl) ?_
  refine WP.valG rfl rfl rfl rfl rfl rfl rfl (Val.fieldAddr (j := o0 + k * 4 + 3) rfl Ty.fo155_2 rfl rfl) ?_
  refine WP.valG rfl rfl rfl rfl rfl rfl rfl (Val.load (v := u) rfl Ty.sc132 rfl (fun w h => hr w (h.at 0 rfl) k (g, u) hx 3 _ rfl)) ?_
  refine WP.valG rfl rfl rfl rfl rfl rfl rfl (Rd.len hin1 rfl Ty.sl132 rfl) ?_
  refine WP.valG rfl rfl rfl rfl rfl rfl rfl (Val.eql rfl rfl rfl) ?_
  refine WP.val rfl rfl rfl (Val.pickF rfl rfl rfl) ?_
  refine WP.val rfl rfl rfl (Val.assign rfl rfl) ?_
  refine WP.nil ?_
  refine Out.next ?_
  refine WPc.ret ?_
  exact Out.ret1 (L' := _) Try.results112 rfl ⟨congrArg Value.bool (decide_eq_decide.2 (by omega)), rfl⟩ (fun _ h => h)

end Go.Proofs.Ythicijpjpijdjaa.Ku

namespace Go.Proofs.Ythicijpjpijdjaa.Kv
open Go.RowKit Go.Proofs.Ythicijpjpijdjaa Go.Proofs.Ythicijpjpijdjaa.Sl Go.Proofs.Ythicijpjpijdjaa.KyP Go.Proofs.Ythicijpjpijdjaa.Ka Go.Proofs.Ythicijpjpijdjaa.Kb Go.Proofs.Ythicijpjpijdjaa.Kc Go.Proofs.Ythicijpjpijdjaa.Kd Go.Proofs.Ythicijpjpijdjaa.Ke Go.Proofs.Ythicijpjpijdjaa.Kf Go.Proofs.Ythicijpjpijdjaa.Kg Go.Proofs.Ythicijpjpijdjaa.Kh Go.Proofs.Ythicijpjpijdjaa.Ki Go.Proofs.Ythicijpjpijdjaa.Kj Go.Proofs.Ythicijpjpijdjaa.Kk Go.Proofs.Ythicijpjpijdjaa.Kl Go.Proofs.Ythicijpjpijdjaa.Km Go.Proofs.Ythicijpjpijdjaa.Kn Go.Proofs.Ythicijpjpijdjaa.Ko Go.Proofs.Ythicijpjpijdjaa.Kp Go.Proofs.Ythicijpjpijdjaa.Kq Go.Proofs.Ythicijpjpijdjaa.Kr Go.Proofs.Ythicijpjpijdjaa.Ks Go.Proofs.Ythicijpjpijdjaa.Kt Go.Proofs.Ythicijpjpijdjaa.Ku
set_option linter.unusedVariables false
set_option linter.unusedSimpArgs false
set_option linter.unusedSectionVars false


/-- one more than the place of the last of the first i revisions at or below a number -/
def wk (rs : List Rv) (at_ : Int) : Nat → Nat
  | 0 => 0
  | i + 1 => match rs[i]? with
    | some x => if at_ < x.m then wk rs at_ i else i + 1
    | none => wk rs at_ i
theorem wk_step {rs : List Rv} {at_ : Int} {j : Nat} {x : Rv} (h : rs[j]? = some x) : wk rs at_ (j + 1) = if at_ < x.m then wk rs at_ j else j + 1 := by
  conv => lhs; unfold wk
  rw [h]
theorem wk_le (rs : List Rv) (at_ : Int) : ∀ i, wk rs at_ i ≤ i
  | 0 => Nat.le_refl _
  | i + 1 => by
    have := wk_le rs at_ i
    unfold wk
    split
    · split <;> omega
    · omega
theorem wk_pos {rs : List Rv} {at_ : Int} {x : Rv} (h : rs[0]? = some x) (hx : x.m ≤ at_) : ∀ i, 0 < i → 0 < wk rs at_ i
  | 1, _ => by rw [wk_step h, if_neg (by omega)]; omega
  | i + 2, _ => by
    have := wk_pos h hx (i + 1) (by omega)
    rw [show i + 2 = (i + 1) + 1 from rfl]
    cases hy : rs[i + 1]? with
    | none => unfold wk; rw [hy]; exact this
    | some y => rw [wk_step hy]; split <;> omega
def vsub (v k : Int) : Int := IntKind.i64.wrap (v - k)
/-- what is told of a number: the revision, the beginning, the version -/
def kget (gs : List Gn) (at_ : Int) : Option (Rv × Rv × Int) :=
  if fg gs at_ gs.length = -1 then none else
  match gs[(fg gs at_ gs.length).toNat]? with
  | none => none
  | some g => match g.revs[wk g.revs at_ g.revs.length - 1]? with
    | none => none
    | some r => some (r, g.c, vsub g.v ((g.revs.length - (wk g.revs at_ g.revs.length - 1) - 1 : Nat) : Int))
theorem kget_none {gs : List Gn} {at_ : Int} (h : fg gs at_ gs.length = -1) : kget gs at_ = none := by unfold kget; rw [if_pos h]
theorem kget_some {gs : List Gn} {at_ : Int} {k n : Nat} {g : Gn} {r : Rv} (h : fg gs at_ gs.length = (k : Int)) (hg : gs[k]? = some g) (hw : wk g.revs at_ g.revs.length = n + 1) (hr : g.revs[n]? = some r) : kget gs at_ = some (r, g.c, vsub g.v ((g.revs.length - n - 1 : Nat) : Int)) := by
  unfold kget
  rw [if_neg (by omega), h, Int.toNat_natCast, hg]
  dsimp only
  rw [hw, Nat.add_sub_cancel, hr]
theorem fg_pos {gs : List Gn} {at_ : Int} : ∀ (n k : Nat), fg gs at_ n = (k : Int) → ∃ g, gs[k]? = some g ∧ 0 < g.revs.length ∧ fstM g ≤ at_
  | 0, k, h => by unfold fg at h; omega
  | n + 1, k, h => by
    cases hg : gs[n]? with
    | none => unfold fg at h; rw [hg] at h; exact fg_pos n k h
    | some g =>
      rw [fg_step hg] at h
      split at h
      · exact fg_pos n k h
      split at h
      · omega
      split at h
      · obtain rfl : n = k := by omega
        exact ⟨g, hg, by omega, by assumption⟩
      · exact fg_pos n k h
theorem results_cctt {P : Program} {W : World} {fn : Func} {n : Nat} {l : List (Nat × Value)} {L : List HProp} {a1 a2 s t : Tmp} {ty : TypeId} {v1 v2 : Value} {b1 b2 k : Nat} {c1 c2 : List Value} (hr : fn.results = #[.cell a1 ty, .cell a2 ty, .tmp s, .tmp t]) (hs : Sl.look l s = some v1) (ht' : Sl.look l t = some v2) (ht : aggS P ty = some k) (h1 : Sl.look l a1 = some (.pointer (some ⟨b1, 0, none⟩))) (h2 : Sl.look l a2 = some (.pointer (some ⟨b2, 0, none⟩))) (hk1 : c1.length = k) (hk2 : c2.length = k)
    (hc1 : ∀ w, Sat W L w → w.rangeAt b1 0 c1) (hc2 : ∀ w, Sat W L w → w.rangeAt b2 0 c2) : ∀ a w, Fr n a l → Sat W L w → (results fn a.tmps).run P w = .ok (.tuple #[.agg c1.toArray, .agg c2.toArray, v1, v2]) w := fun a w hf hsat => by
  obtain ⟨d, q1, q2, q3⟩ := aggS_row ht
  have r1 := run_loadVar_mid (P := P) w b1 0 ty c1 d (hc1 w hsat) q1 q2 (by rw [q3, hk1])
  have r2 := run_loadVar_mid (P := P) w b2 0 ty c2 d (hc2 w hsat) q1 q2 (by rw [q3, hk2])
  have e1 := hf.at_ a1 _ h1
  have e2 := hf.at_ a2 _ h2
  have e3 := hf.at_ s _ hs
  have e4 := hf.at_ t _ ht'
  rw [Array.getD_eq_getD_getElem?] at e1 e2 e3 e4
  simp [results, hr, e1, e2, e3, e4, asAddr, r1, r2]
set_option maxRecDepth 100000 in
set_option maxHeartbeats 2000000 in
theorem kempty_nil (A : HProp) (b : Nat) (ka : Option Addr) (kn kc : Nat) (md : Rv) (a : Option Addr) (c : Nat) : Does Try.prog 105 [.pointer (some ⟨b, 0, none⟩)] [Blk b [.slice ka kn kc, .int .i64 (md.m), .int .i64 (md.s), .slice a 0 c] 153, A] (fun v L => v = .bool (emp (([] : List GV).map (·.1))) ∧ L = [Blk b [.slice ka kn kc, .int .i64 md.m, .int .i64 md.s, (.slice a 0 c)] 153, A]) := by
  refine Does.enter 17 Try.func105 rfl rfl rfl fun W F => ?_
  show WPc _ _ _ _ _ [(0, .pointer (some ⟨b, 0, none⟩))] (Blk b [.slice ka kn kc, .int .i64 (md.m), .int .i64 (md.s), .slice a 0 c] 153 :: A :: F)
  refine WPc.seq ?_
  refine WPc.region ?_
  refine WP.val rfl rfl rfl (Val.assign rfl rfl) ?_
  refine WP.nil ?_
  refine Out.next ?_
  refine WPc.seq ?_
  refine WPc.region ?_
  refine WP.val rfl rfl rfl (Val.move rfl rfl) ?_
  refine WP.val rfl rfl rfl (Val.nilCheck rfl rfl) ?_
  refine WP.val rfl rfl rfl (Val.fieldAddr (j := 3) rfl Ty.fo153_2 rfl rfl) ?_
  refine WP.val rfl rfl rfl (Val.load rfl Ty.sc151 rfl (fun w h => h.cell 0 rfl rfl)) ?_
  refine WP.val rfl rfl rfl (Val.len rfl Ty.sl151 rfl) ?_
  refine WP.val rfl rfl rfl (Val.eqlK rfl rfl rfl rfl) ?_
  refine WP.val rfl rfl rfl (Val.move rfl rfl) ?_
  refine WP.skip rfl rfl rfl rfl rfl rfl rfl ?_
  refine WP.skip rfl rfl rfl rfl rfl rfl rfl ?_
  refine WP.skip rfl rfl rfl rfl rfl rfl rfl ?_
  refine WP.skip rfl rfl rfl rfl rfl rfl rfl ?_
  refine WP.skip rfl rfl rfl rfl rfl rfl rfl ?_
  refine WP.skip rfl rfl rfl rfl rfl rfl rfl ?_
  refine WP.val rfl rfl rfl (Val.pickF rfl rfl rfl) ?_
  refine WP.val rfl rfl rfl (Val.assign rfl rfl) ?_
  refine WP.nil ?_
  refine Out.next ?_
  refine WPc.ret ?_
  exact Out.ret1 (L' := _) Try.results105 rfl ⟨congrArg Value.bool rfl, rfl⟩ (fun _ h => h)

set_option maxRecDepth 100000 in
set_option maxHeartbeats 2000000 in
theorem kempty_row (A : HProp) (b : Nat) (ka : Option Addr) (kn kc : Nat) (md : Rv) (l : List GV) (hsm : Small (l.map (·.1))) (hin : ∀ p ∈ l, Rd A 2 Rv.cells p.2 p.1.revs) (b0 o0 c0 : Nat) (hr : ∀ w, Holds A w → ∀ i x, l[i]? = some x → w.rangeAt b0 (o0 + i * 4) (GV.cells x)) : Does Try.prog 105 [.pointer (some ⟨b, 0, none⟩)] [Blk b [.slice ka kn kc, .int .i64 (md.m), .int .i64 (md.s), .slice (some ⟨b0, o0, none⟩) l.length c0] 153, A] (fun v L => v = .bool (emp (l.map (·.1))) ∧ L = [Blk b [.slice ka kn kc, .int .i64 md.m, .int .i64 md.s, (.slice (some ⟨b0, o0, none⟩) l.length c0)] 153, A]) := by
  refine Does.enter 17 Try.func105 rfl rfl rfl fun W F => ?_
  show WPc _ _ _ _ _ [(0, .pointer (some ⟨b, 0, none⟩))] (Blk b [.slice ka kn kc, .int .i64 (md.m), .int .i64 (md.s), .slice (some ⟨b0, o0, none⟩) l.length c0] 153 :: A :: F)
  refine WPc.seq ?_
  refine WPc.region ?_
  refine WP.val rfl rfl rfl (Val.assign rfl rfl) ?_
  refine WP.nil ?_
  refine Out.next ?_
  refine WPc.seq ?_
  have hlen := hsm.len
  refine WPc.region ?_
  refine WP.val rfl rfl rfl (Val.move rfl rfl) ?_
  refine WP.val rfl rfl rfl (Val.nilCheck rfl rfl) ?_
  refine WP.val rfl rfl rfl (Val.fieldAddr (j := 3) rfl Ty.fo153_2 rfl rfl) ?_
  refine WP.val rfl rfl rfl (Val.load rfl Ty.sc151 rfl (fun w h => h.cell 0 rfl rfl)) ?_
  refine WP.val rfl rfl rfl (Val.len rfl Ty.sl151 rfl) ?_
  refine WP.val rfl rfl rfl (Val.eql rfl rfl rfl) ?_
  refine WP.val rfl rfl rfl (Val.move rfl rfl) ?_
  refine WP.split 9 rfl (fun h1 => ?_) (fun h1 => ?_)
  · skip
    have h1 : (((l.length : Nat) : Int) = (1 : Int)) := h1
    refine WP.valG rfl rfl rfl rfl rfl rfl rfl (Val.move rfl rfl) ?_
    refine WP.valG rfl rfl rfl rfl rfl rfl rfl (Val.nilCheck rfl rfl) ?_
    refine WP.valG rfl rfl rfl rfl rfl rfl rfl (Val.fieldAddr (j := 3) rfl Ty.fo153_2 rfl rfl) ?_
    refine WP.valG rfl rfl rfl rfl rfl rfl rfl (Val.load rfl Ty.sc151 rfl (fun w h => h.cell 0 rfl rfl)) ?_
    obtain ⟨⟨g, u⟩, hx⟩ : ∃ x, l[0]? = some x := ⟨_, List.getElem?_eq_getElem (by omega)⟩
    have hin1 := hin _ (List.mem_iff_getElem?.2 ⟨_, hx⟩)
    have hgj : (l.map (·.1))[0]? = some g := by rw [List.getElem?_map, hx]; rfl
    refine WP.valG rfl rfl rfl rfl rfl rfl rfl (Val.indexAddr (j := 0) (q := o0 + 0 * 4) rfl Ty.sl151 rfl rfl (by omega) (by omega) (by omega)) ?_
    refine WP.perm pl1 ?_
    refine WP.effG rfl rfl rfl rfl rfl rfl rfl (Eff.call rfl rfl Try.call112 (gempty_row A l b0 o0 hr 0 g u hx hin1)) ?_
    rintro _ _ ⟨_, ⟨rfl, rfl⟩, rfl⟩
    show WP _ _ _ _ _ _ _ (A :: Blk b [.slice ka kn kc, .int .i64 (md.m), .int .i64 (md.s), .slice (some ⟨b0, o0, none⟩) l.length c0] 153 :: F)
    refine WP.val rfl rfl rfl (Val.pickT rfl rfl rfl) ?_
    refine WP.val rfl rfl rfl (Val.assign rfl rfl) ?_
    refine WP.nil ?_
    refine Out.next ?_
    refine WPc.ret ?_
    refine Out.perm pl1 ?_
    exact Out.ret1 (L' := _) Try.results105 rfl ⟨congrArg Value.bool (emp_one (by rw [List.length_map]; omega) hgj).symm, rfl⟩ (fun _ h => h)
  · skip
    have h1 : ¬ (((l.length : Nat) : Int) = (1 : Int)) := h1
    refine WP.skip rfl rfl rfl rfl rfl rfl rfl ?_
    refine WP.skip rfl rfl rfl rfl rfl rfl rfl ?_
    refine WP.skip rfl rfl rfl rfl rfl rfl rfl ?_
    refine WP.skip rfl rfl rfl rfl rfl rfl rfl ?_
    refine WP.skip rfl rfl rfl rfl rfl rfl rfl ?_
    refine WP.skip rfl rfl rfl rfl rfl rfl rfl ?_
    refine WP.val rfl rfl rfl (Val.pickF rfl rfl rfl) ?_
    refine WP.val rfl rfl rfl (Val.assign rfl rfl) ?_
    refine WP.nil ?_
    refine Out.next ?_
    refine WPc.ret ?_
    exact Out.ret1 (L' := _) Try.results105 rfl ⟨congrArg Value.bool (emp_no (by rw [List.length_map]; omega)).symm, rfl⟩ (fun _ h => h)

theorem kempty_spec (A : HProp) (b : Nat) (ka : Option Addr) (kn kc : Nat) (md : Rv) (l : List GV) (hsm : Small (l.map (·.1))) (hin : ∀ p ∈ l, Rd A 2 Rv.cells p.2 p.1.revs) (va : Value) (hva : Rd A 4 GV.cells va l) : Does Try.prog 105 [.pointer (some ⟨b, 0, none⟩)] [Blk b [.slice ka kn kc, .int .i64 (md.m), .int .i64 (md.s), va] 153, A] (fun v L => v = .bool (emp (l.map (·.1))) ∧ L = [Blk b [.slice ka kn kc, .int .i64 md.m, .int .i64 md.s, va] 153, A]) := by
  rcases hva with ⟨b0, o0, c0, rfl, hr⟩ | ⟨rfl, a, c, rfl⟩
  · exact kempty_row A b ka kn kc md l hsm hin b0 o0 c0 hr
  · exact kempty_nil A b ka kn kc md a c
set_option maxRecDepth 100000 in
set_option maxHeartbeats 2000000 in
theorem get1_spec (r : Rv) (b5 : Nat) (at_ : Int) : Does Try.prog 114 [.agg #[.int .i64 (r.m), .int .i64 (r.s)], .pointer (some ⟨b5, 0, none⟩)] [Blk b5 [.int .i64 (at_)] 2] (fun v L => v = .bool (decide (at_ < r.m)) ∧ L = [Blk b5 [.int .i64 at_] 2]) := by
  refine Does.enter 8 Try.func114 rfl rfl rfl fun W F => ?_
  show WPc _ _ _ _ _ [(0, .agg #[.int .i64 (r.m), .int .i64 (r.s)]), (1, .pointer (some ⟨b5, 0, none⟩))] (Blk b5 [.int .i64 (at_)] 2 :: F)
  refine WPc.seq ?_
  refine WPc.region ?_
  refine WP.eff rfl rfl rfl (Eff.box (C := [.int .i64 (r.m), .int .i64 (r.s)]) rfl rfl rfl) ?_
  rintro _ _ ⟨b1, rfl, rfl⟩
  refine WP.val rfl rfl rfl (Val.assign rfl rfl) ?_
  refine WP.nil ?_
  refine Out.next ?_
  refine WPc.seq ?_
  refine WPc.region ?_
  refine WP.val rfl rfl rfl (Val.fieldAddr (j := 0) rfl Ty.fo81_0 rfl rfl) ?_
  refine WP.val rfl rfl rfl (Val.load rfl Ty.sc2 rfl (fun w h => h.cell 0 rfl rfl)) ?_
  refine WP.val rfl rfl rfl (Val.load rfl Ty.sc2 rfl (fun w h => h.cell 1 rfl rfl)) ?_
  refine WP.val rfl rfl rfl (Val.gtr rfl rfl rfl) ?_
  refine WP.val rfl rfl rfl (Val.assign rfl rfl) ?_
  refine WP.nil ?_
  refine Out.next ?_
  refine WPc.ret ?_
  refine Out.drop ?_
  exact Out.ret1 (L' := _) Try.results114 rfl ⟨rfl, rfl⟩ (fun _ h => h)
set_option maxRecDepth 100000 in
set_option maxHeartbeats 2000000 in
theorem walkget_spec (A : HProp) (l : List GV) (b0 o0 : Nat) (hr : ∀ w, Holds A w → ∀ i x, l[i]? = some x → w.rangeAt b0 (o0 + i * 4) (GV.cells x)) (k : Nat) (g : Gn) (u : Value) (hx : l[k]? = some (g, u)) (hin1 : Rd A 2 Rv.cells u g.revs) (hne : 0 < g.revs.length) (hsx : g.revs.length ≤ 200000) (b5 : Nat) (at_ : Int) : Does Try.prog 113 [.pointer (some ⟨b0, o0 + k * 4, none⟩), .func (.func 114) #[] #[.pointer (some ⟨b5, 0, none⟩)]] [Blk b5 [.int .i64 (at_)] 2, A] (fun v L => v = .int .i64 ((wk g.revs at_ g.revs.length : Int) - 1) ∧ L = [Blk b5 [.int .i64 at_] 2, A]) := by
  obtain ⟨bi, oi, ci, rfl, hri⟩ := Rd.row hin1 hne
  refine Does.enter 40 Try.func113 rfl rfl rfl fun W F => ?_
  show WPc _ _ _ _ _ [(0, .pointer (some ⟨b0, o0 + k * 4, none⟩)), (1, .func (.func 114) #[] #[.pointer (some ⟨b5, 0, none⟩)])] (Blk b5 [.int .i64 (at_)] 2 :: A :: F)
  refine WPc.seq ?_
  refine WPc.region ?_
  refine WP.val rfl rfl rfl (Val.assign rfl rfl) ?_
  refine WP.nil ?_
  refine Out.next ?_
  refine WPc.seq ?_
  refine WPc.region ?_
  refine WP.val rfl rfl rfl (Val.move rfl rfl) ?_
  refine WP.val rfl rfl rfl (Val.nilCheck rfl rfl) ?_
  refine WP.val rfl rfl rfl (Val.fieldAddr (j := o0 + k * 4 + 3) rfl Ty.fo155_2 rfl rfl) ?_
  refine WP.val rfl rfl rfl (Val.load (v := .slice (some ⟨bi, oi, none⟩) g.revs.length ci) rfl Ty.sc132 rfl (fun w h => hr w (h.at 1 rfl) k (g, _) hx 3 _ rfl)) ?_
  refine WP.val rfl rfl rfl (Val.len rfl Ty.sl132 rfl) ?_
  refine WP.val rfl rfl rfl (Val.assign rfl rfl) ?_
  refine WP.nil ?_
  refine Out.next ?_
  refine WPc.seq ?_
  refine WPc.seq ?_
  refine WPc.region ?_
  refine WP.val rfl rfl rfl (Val.move rfl rfl) ?_
  refine WP.val rfl rfl rfl (Val.nilCheck rfl rfl) ?_
  refine WP.val rfl rfl rfl (Val.fieldAddr (j := o0 + k * 4 + 3) rfl Ty.fo155_2 rfl rfl) ?_
  refine WP.val rfl rfl rfl (Val.load (v := .slice (some ⟨bi, oi, none⟩) g.revs.length ci) rfl Ty.sc132 rfl (fun w h => hr w (h.at 1 rfl) k (g, _) hx 3 _ rfl)) ?_
  refine WP.val rfl rfl rfl (Val.len rfl Ty.sl132 rfl) ?_
  refine WP.val rfl rfl rfl (Val.move rfl rfl) ?_
  refine WP.nil ?_
  refine Out.next ?_
  refine WPc.block ?_
  refine WPc.loop (ι := Nat) (fun i => i ≤ g.revs.length ∧ wk g.revs at_ g.revs.length = wk g.revs at_ (g.revs.length - i)) (fun i => [(0, .pointer (some ⟨b0, o0 + k * 4, none⟩)), (1, .func (.func 114) #[] #[.pointer (some ⟨b5, 0, none⟩)]), (5, .int .i64 (((g.revs.length : Nat) : Int))), (17, .int .i64 (((g.revs.length : Nat) : Int))), (18, .int .i64 (((i : Nat) : Int)))]) (fun i => Blk b5 [.int .i64 (at_)] 2 :: A :: F) (fun i => g.revs.length - i) 0 ⟨Nat.zero_le _, rfl⟩ ((Sub.cons rfl (Sub.cons rfl (Sub.cons rfl (Sub.cons rfl (Sub.cons rfl Sub.nil)))))) (fun _ h => h) ?_
  rintro i ⟨hi, hwk⟩
  show WPc _ _ _ _ _ [(0, .pointer (some ⟨b0, o0 + k * 4, none⟩)), (1, .func (.func 114) #[] #[.pointer (some ⟨b5, 0, none⟩)]), (5, .int .i64 (((g.revs.length : Nat) : Int))), (17, .int .i64 (((g.revs.length : Nat) : Int))), (18, .int .i64 (((i : Nat) : Int)))] (Blk b5 [.int .i64 (at_)] 2 :: A :: F)
  refine WPc.seq ?_
  refine WPc.region ?_
  refine WP.val rfl rfl rfl (Val.lss rfl rfl rfl) ?_
  refine WP.nil ?_
  refine Out.next ?_
  refine WPc.seq ?_
  refine WPc.ifP rfl (fun h1 => ?_) (fun h1 => ?_)
  · skip
    have h1 : (((i : Nat) : Int) < ((g.revs.length : Nat) : Int)) := h1
    refine WPc.skip ?_
    refine Out.next ?_
    refine WPc.seq ?_
    refine WPc.block ?_
    refine WPc.seq ?_
    refine WPc.region ?_
    refine WP.val rfl rfl rfl (Val.move rfl rfl) ?_
    refine WP.val rfl rfl rfl (Val.assign rfl rfl) ?_
    refine WP.nil ?_
    refine Out.next ?_
    refine WPc.seq ?_
    obtain ⟨y, hy⟩ : ∃ y, g.revs[g.revs.length - i - 1]? = some y := ⟨_, List.getElem?_eq_getElem (by omega)⟩
    have hst := wk_step (at_ := at_) hy
    rw [show g.revs.length - i - 1 + 1 = g.revs.length - i from by omega] at hst
    refine WPc.region ?_
    refine WP.val rfl rfl rfl (Val.move rfl rfl) ?_
    refine WP.val rfl rfl rfl (Val.move rfl rfl) ?_
    refine WP.val rfl rfl rfl (Val.nilCheck rfl rfl) ?_
    refine WP.val rfl rfl rfl (Val.fieldAddr (j := o0 + k * 4 + 3) rfl Ty.fo155_2 rfl rfl) ?_
    refine WP.val rfl rfl rfl (Val.load (v := .slice (some ⟨bi, oi, none⟩) g.revs.length ci) rfl Ty.sc132 rfl (fun w h => hr w (h.at 1 rfl) k (g, _) hx 3 _ rfl)) ?_
    refine WP.val rfl rfl rfl (Val.move rfl rfl) ?_
    refine WP.val rfl rfl rfl (Val.move rfl rfl) ?_
    refine WP.val rfl rfl rfl (Val.sub (z := ((g.revs.length - i : Nat) : Int)) rfl rfl rfl ((w64 (by omega) (by omega)).trans (by omega))) ?_
    refine WP.val rfl rfl rfl (Val.sub (z := ((g.revs.length - i - 1 : Nat) : Int)) rfl rfl rfl ((w64 (by omega) (by omega)).trans (by omega))) ?_
    refine WP.val rfl rfl rfl (Val.indexAddr (j := g.revs.length - i - 1) (q := oi + (g.revs.length - i - 1) * 2) rfl Ty.sl132 rfl rfl (by omega) (by omega) (by omega)) ?_
    refine WP.val rfl rfl rfl (Val.loadAgg (cs := (Rv.cells y)) rfl Ty.ag81 rfl (by rfl) (fun w h => hri w (h.at 1 rfl) _ y hy)) ?_
    refine WP.eff rfl rfl rfl (Eff.callF (args' := [.agg #[.int .i64 (y.m), .int .i64 (y.s)], .pointer (some ⟨b5, 0, none⟩)]) rfl rfl rfl rfl Try.call114 (get1_spec y b5 at_)) ?_
    rintro _ _ ⟨_, ⟨rfl, rfl⟩, rfl⟩
    show WP _ _ _ _ _ _ _ (Blk b5 [.int .i64 (at_)] 2 :: A :: F)
    refine WP.val rfl rfl rfl (Val.assign rfl rfl) ?_
    refine WP.nil ?_
    refine Out.next ?_
    refine WPc.seq ?_
    refine WPc.region ?_
    refine WP.val rfl rfl rfl (Val.move rfl rfl) ?_
    refine WP.val rfl rfl rfl (Val.notP rfl rfl) ?_
    refine WP.nil ?_
    refine Out.next ?_
    refine WPc.ifP rfl (fun h2 => ?_) (fun h2 => ?_)
    · skip
      have h2 : (¬ (at_ < y.m)) := h2
      refine WPc.seq ?_
      refine WPc.region ?_
      refine WP.val rfl rfl rfl (Val.move rfl rfl) ?_
      refine WP.val rfl rfl rfl (Val.move rfl rfl) ?_
      refine WP.val rfl rfl rfl (Val.sub (z := ((g.revs.length - i : Nat) : Int)) rfl rfl rfl ((w64 (by omega) (by omega)).trans (by omega))) ?_
      refine WP.val rfl rfl rfl (Val.sub (z := ((g.revs.length - i - 1 : Nat) : Int)) rfl rfl rfl ((w64 (by omega) (by omega)).trans (by omega))) ?_
      refine WP.val rfl rfl rfl (Val.assign rfl rfl) ?_
      refine WP.nil ?_
      refine Out.next ?_
      refine WPc.ret ?_
      refine Out.block_ret ?_
      refine Out.then_ret ?_
      refine Out.then_ret ?_
      refine Out.block_ret ?_
      refine Out.then_ret ?_
      exact Out.ret1 (L' := _) Try.results113 rfl ⟨congrArg (Value.int .i64) (show _ = (wk g.revs at_ g.revs.length : Int) - 1 from by rw [hwk, hst, if_neg (by omega)]; omega), rfl⟩ (fun _ h => h)
    · skip
      have h2 : ¬ (¬ (at_ < y.m)) := h2
      refine WPc.skip ?_
      refine Out.block ?_
      refine Out.next ?_
      refine WPc.region ?_
      refine WP.val rfl rfl rfl (Val.add (z := ((i + 1 : Nat) : Int)) rfl rfl rfl ((w64 (by omega) (by omega)).trans (by omega))) ?_
      refine WP.val rfl rfl rfl (Val.move rfl rfl) ?_
      refine WP.nil ?_
      refine Out.again (i + 1) ?_ ?_ ?_ ?_
      · exact (by refine ⟨by omega, hwk.trans ?_⟩; rw [hst, if_pos (by omega)]; rfl)
      · first | omega | (dsimp only; omega)
      · exact (Sub.cons rfl (Sub.cons rfl (Sub.cons rfl (Sub.cons rfl (Sub.cons rfl Sub.nil)))))
      · exact (fun _ h => h)
  · skip
    have h1 : ¬ (((i : Nat) : Int) < ((g.revs.length : Nat) : Int)) := h1
    refine WPc.exit ?_
    refine Out.then_exit ?_
    refine Out.then_exit ?_
    refine Out.block_exit ?_
    refine Out.next ?_
    refine WPc.seq ?_
    refine WPc.region ?_
    refine WP.val rfl rfl rfl (Val.assign rfl rfl) ?_
    refine WP.nil ?_
    refine Out.next ?_
    refine WPc.ret ?_
    exact Out.ret1 (L' := _) Try.results113 rfl ⟨congrArg (Value.int .i64) (show _ = (wk g.revs at_ g.revs.length : Int) - 1 from by rw [hwk, show g.revs.length - i = 0 from by omega]; rfl), rfl⟩ (fun _ h => h)

end Go.Proofs.Ythicijpjpijdjaa.Kv

namespace Go.Proofs.Ythicijpjpijdjaa.Kw
open Go.RowKit Go.Proofs.Ythicijpjpijdjaa Go.Proofs.Ythicijpjpijdjaa.Sl Go.Proofs.Ythicijpjpijdjaa.KyP Go.Proofs.Ythicijpjpijdjaa.Ka Go.Proofs.Ythicijpjpijdjaa.Kb Go.Proofs.Ythicijpjpijdjaa.Kc Go.Proofs.Ythicijpjpijdjaa.Kd Go.Proofs.Ythicijpjpijdjaa.Ke Go.Proofs.Ythicijpjpijdjaa.Kf Go.Proofs.Ythicijpjpijdjaa.Kg Go.Proofs.Ythicijpjpijdjaa.Kh Go.Proofs.Ythicijpjpijdjaa.Ki Go.Proofs.Ythicijpjpijdjaa.Kj Go.Proofs.Ythicijpjpijdjaa.Kk Go.Proofs.Ythicijpjpijdjaa.Kl Go.Proofs.Ythicijpjpijdjaa.Km Go.Proofs.Ythicijpjpijdjaa.Kn Go.Proofs.Ythicijpjpijdjaa.Ko Go.Proofs.Ythicijpjpijdjaa.Kp Go.Proofs.Ythicijpjpijdjaa.Kq Go.Proofs.Ythicijpjpijdjaa.Kr Go.Proofs.Ythicijpjpijdjaa.Ks Go.Proofs.Ythicijpjpijdjaa.Kt Go.Proofs.Ythicijpjpijdjaa.Ku Go.Proofs.Ythicijpjpijdjaa.Kv
set_option linter.unusedVariables false
set_option linter.unusedSimpArgs false
set_option linter.unusedSectionVars false


theorem Rd.at {α : Type} {A : HProp} {k b0 o0 n c0 : Nat} {cf : α → List Value} {l : List α} (h : Rd A k cf (.slice (some ⟨b0, o0, none⟩) n c0) l) (hl : 0 < l.length) : ∀ w, Holds A w → ∀ i x, l[i]? = some x → w.rangeAt b0 (o0 + i * k) (cf x) := by
  obtain ⟨b, o, c, he, hr⟩ := Rd.row h hl
  simp only [Value.slice.injEq, Option.some.injEq, Addr.mk.injEq, and_true] at he
  obtain ⟨⟨rfl, rfl⟩, -, -⟩ := he
  exact hr
def GetP (gs : List Gn) (at_ : Int) (v : Value) (er : Value) : Prop := ∃ r c x, ((kget gs at_ = some (r, c, x) ∧ er = .nilIface) ∨ (kget gs at_ = none ∧ r = Rv0 ∧ c = Rv0 ∧ x = 0 ∧ ∃ ev, er = .iface 247 ev)) ∧ v = .tuple #[rk r, rk c, .int .i64 x, er]
set_option maxRecDepth 100000 in
set_option maxHeartbeats 2000000 in
theorem get_spec (b : Nat) (ka : Option Addr) (kn kc : Nat) (s : KI) (hsm : Small s.gs) (hemp : emp s.gs = false) (at_ : Int) : Does Try.prog 99 [.pointer (some ⟨b, 0, none⟩), .pointer none, .int .i64 (at_)] [KIs b ka kn kc s] (fun v L => ∃ er, GetP s.gs at_ v er ∧ L = [KIs b ka kn kc s]) := by
  refine Does.enter 55 Try.func99 rfl rfl rfl fun W F => ?_
  show WPc _ _ _ _ _ [(0, .pointer (some ⟨b, 0, none⟩)), (1, .pointer none), (2, .int .i64 (at_))] (KIs b ka kn kc s :: F)
  refine WPc.seq ?_
  refine WPc.region ?_
  refine WP.eff rfl rfl rfl (Eff.box (C := [.int .i64 (at_)]) rfl rfl rfl) ?_
  rintro _ _ ⟨b1, rfl, rfl⟩
  refine WP.eff rfl rfl rfl (Eff.alloc rfl Ty.z81) ?_
  rintro _ _ ⟨b2, rfl, rfl⟩
  refine WP.eff rfl rfl rfl (Eff.alloc rfl Ty.z81) ?_
  rintro _ _ ⟨b3, rfl, rfl⟩
  refine WP.val rfl rfl rfl (Val.assign rfl rfl) ?_
  refine WP.val rfl rfl rfl (Val.assign rfl rfl) ?_
  refine WP.nil ?_
  refine Out.next ?_
  refine WPc.seq ?_
  refine WPc.seq ?_
  refine WPc.perm pl3 ?_
  refine WPc.open (fun w h => kis_rd h) ?_
  rintro ⟨vg, gl, E⟩
  refine WPc.pure (fun hkis => ?_)
  obtain ⟨hgl, hG, back⟩ := hkis
  dsimp only at hgl hG back
  have hsg : Small (gl.map (·.1)) := by rw [hgl]; exact hsm
  show WPc _ _ _ _ _ _ (Blk b [.slice ka kn kc, .int .i64 (s.md.m), .int .i64 (s.md.s), vg] 153 :: E :: Blk b3 [.int .i64 0, .int .i64 0] 81 :: Blk b2 [.int .i64 0, .int .i64 0] 81 :: Blk b1 [.int .i64 (at_)] 2 :: F)
  refine WPc.region ?_
  refine WP.val rfl rfl rfl (Val.move rfl rfl) ?_
  refine WP.perm pl1 ?_
  refine WP.perm pl1 ?_
  refine WP.eff rfl rfl rfl (Eff.call rfl rfl Try.call105 (kempty_spec E b ka kn kc s.md gl hsg hG.inn vg hG.rd)) ?_
  rintro _ _ ⟨_, ⟨rfl, rfl⟩, rfl⟩
  show WP _ _ _ _ _ _ _ (Blk b [.slice ka kn kc, .int .i64 (s.md.m), .int .i64 (s.md.s), vg] 153 :: E :: Blk b3 [.int .i64 0, .int .i64 0] 81 :: Blk b2 [.int .i64 0, .int .i64 0] 81 :: Blk b1 [.int .i64 (at_)] 2 :: F)
  refine WP.nil ?_
  refine Out.next ?_
  refine WPc.cond rfl (fun h1 => ?_) (fun h1 => ?_)
  · skip
    have h1 : ((emp (gl.map (·.1)))) = true := h1
    exfalso; rw [hgl, hemp] at h1; cases h1
  · skip
    have h1 : ((emp (gl.map (·.1)))) = false := h1
    refine WPc.skip ?_
    refine Out.next ?_
    refine WPc.seq ?_
    refine WPc.region ?_
    refine WP.val rfl rfl rfl (Val.move rfl rfl) ?_
    refine WP.val rfl rfl rfl (Val.load rfl Ty.sc2 rfl (fun w h => h.cell 4 rfl rfl)) ?_
    refine WP.perm pl1 ?_
    refine WP.perm pl1 ?_
    refine WP.eff rfl rfl rfl (Eff.call rfl rfl Try.call80 (fgen_spec E b ka kn kc s.md at_ gl hsg hG.inn vg hG.rd)) ?_
    rintro vp _ ⟨_, ⟨hfg, rfl⟩, rfl⟩
    show WP _ _ _ _ _ _ _ (Blk b [.slice ka kn kc, .int .i64 (s.md.m), .int .i64 (s.md.s), vg] 153 :: E :: Blk b3 [.int .i64 0, .int .i64 0] 81 :: Blk b2 [.int .i64 0, .int .i64 0] 81 :: Blk b1 [.int .i64 (at_)] 2 :: F)
    refine WP.val rfl rfl rfl (Val.assign rfl rfl) ?_
    refine WP.nil ?_
    refine Out.next ?_
    refine WPc.seq ?_
    refine WPc.seq ?_
    rcases hfg with ⟨hfg, rfl⟩ | ⟨k, b0, o0, c0, hk, hfg, hvg, rfl⟩
    · skip
      replace hfg : fg s.gs at_ s.gs.length = -1 := by rw [← hgl, List.length_map]; exact hfg
      refine WPc.region ?_
      refine WP.val rfl rfl rfl (Val.move rfl rfl) ?_
      refine WP.eff rfl rfl rfl (Eff.call rfl rfl Try.call112 (gempty_nil 0)) ?_
      rintro _ _ ⟨_, ⟨rfl, rfl⟩, rfl⟩
      show WP _ _ _ _ _ _ _ (Blk b [.slice ka kn kc, .int .i64 (s.md.m), .int .i64 (s.md.s), vg] 153 :: E :: Blk b3 [.int .i64 0, .int .i64 0] 81 :: Blk b2 [.int .i64 0, .int .i64 0] 81 :: Blk b1 [.int .i64 (at_)] 2 :: F)
      refine WP.nil ?_
      refine Out.next ?_
      refine WPc.condT rfl rfl ?_
      refine WPc.seq ?_
      refine WPc.region ?_
      refine WP.val rfl rfl rfl (Val.mk (cs := [.int .i64 0, .int .i64 0]) rfl rfl (fun _ => by kernel_rfl)) ?_
      refine WP.val rfl rfl rfl (Val.mk (cs := [.int .i64 0, .int .i64 0]) rfl rfl (fun _ => by kernel_rfl)) ?_
      refine WP.val rfl rfl rfl (Val.iface rfl rfl Ty.ni247) ?_
      refine WP.perm pl3 ?_
      refine WP.eff0 rfl rfl (Eff.storeAgg (cs := [.int .i64 0, .int .i64 0]) (C' := [.int .i64 0, .int .i64 0]) rfl Ty.ag81 rfl rfl rfl rfl (by simp) rfl) ?_
      rintro _ _ rfl
      refine WP.perm pl3 ?_
      refine WP.eff0 rfl rfl (Eff.storeAgg (cs := [.int .i64 0, .int .i64 0]) (C' := [.int .i64 0, .int .i64 0]) rfl Ty.ag81 rfl rfl rfl rfl (by simp) rfl) ?_
      rintro _ _ rfl
      refine WP.val rfl rfl rfl (Val.assign rfl rfl) ?_
      refine WP.val rfl rfl rfl (Val.assign rfl rfl) ?_
      refine WP.nil ?_
      refine Out.next ?_
      refine WPc.ret ?_
      refine Out.then_ret ?_
      refine Out.perm pl3 ?_
      refine Out.perm pl3 ?_
      refine Out.conv (fun w h => back w _ h) ?_
      show Out _ _ _ _ _ (KIs b ka kn kc s :: Blk b3 [.int .i64 0, .int .i64 0] 81 :: Blk b2 [.int .i64 0, .int .i64 0] 81 :: Blk b1 [.int .i64 (at_)] 2 :: F)
      refine Out.perm pl3 ?_
      refine Out.drop ?_
      refine Out.perm pl1 ?_
      refine Out.perm pl2 ?_
      exact Out.retRun (L' := _) (results_cctt (c1 := _) (c2 := _) Try.results99 rfl rfl Ty.ag81 rfl rfl rfl rfl (fun w h => h.range 0 rfl rfl) (fun w h => h.range 1 rfl rfl)) ⟨_, ⟨Rv0, Rv0, 0, .inr ⟨kget_none hfg, rfl, rfl, rfl, _, rfl⟩, rfl⟩, rfl⟩ (fun w h => h.drop.drop)
    · skip
      subst hvg
      have hr := Rd.at hG.rd (by omega)
      obtain ⟨⟨g, u⟩, hx⟩ : ∃ x, gl[k]? = some x := ⟨_, List.getElem?_eq_getElem hk⟩
      have hxm := List.mem_iff_getElem?.2 ⟨_, hx⟩
      have hin1 : Rd E 2 Rv.cells u g.revs := hG.inn _ hxm
      have hsx : g.revs.length ≤ 200000 := hsg.inn hxm
      have hgk : (gl.map (·.1))[k]? = some g := by rw [List.getElem?_map, hx]; rfl
      obtain ⟨g', hg', hpos, hfst⟩ := fg_pos _ k hfg
      obtain rfl : g' = g := by rw [hgk] at hg'; exact (Option.some.inj hg').symm
      replace hfg : fg s.gs at_ s.gs.length = (k : Int) := by rw [← hgl, List.length_map]; exact hfg
      rw [hgl] at hgk
      obtain ⟨bi, oi, ci, rfl, hri⟩ := Rd.row hin1 hpos
      obtain ⟨y0, hy0⟩ : ∃ y, g'.revs[0]? = some y := ⟨_, List.getElem?_eq_getElem (by omega)⟩
      have hwp := wk_pos hy0 (by rw [fst_at hy0] at hfst; exact hfst) _ hpos
      have hwl := wk_le g'.revs at_ g'.revs.length
      obtain ⟨n, hn⟩ : ∃ n, wk g'.revs at_ g'.revs.length = n + 1 := ⟨_, (Nat.succ_pred_eq_of_pos hwp).symm⟩
      obtain ⟨r, hrn⟩ : ∃ y, g'.revs[n]? = some y := ⟨_, List.getElem?_eq_getElem (by omega)⟩
      refine WPc.region ?_
      refine WP.val rfl rfl rfl (Val.move rfl rfl) ?_
      refine WP.perm pl1 ?_
      refine WP.eff rfl rfl rfl (Eff.call rfl rfl Try.call112 (gempty_row E gl b0 o0 hr k g' _ hx hin1)) ?_
      rintro _ _ ⟨_, ⟨rfl, rfl⟩, rfl⟩
      show WP _ _ _ _ _ _ _ (E :: Blk b [.slice ka kn kc, .int .i64 (s.md.m), .int .i64 (s.md.s), .slice (some ⟨b0, o0, none⟩) gl.length c0] 153 :: Blk b3 [.int .i64 0, .int .i64 0] 81 :: Blk b2 [.int .i64 0, .int .i64 0] 81 :: Blk b1 [.int .i64 (at_)] 2 :: F)
      refine WP.nil ?_
      refine Out.next ?_
      refine WPc.ifP rfl (fun h2 => ?_) (fun h2 => ?_)
      · skip
        have h2 : (g'.revs.length = 0) := h2
        exfalso; omega
      · skip
        have h2 : ¬ (g'.revs.length = 0) := h2
        refine WPc.skip ?_
        refine Out.next ?_
        refine WPc.seq ?_
        refine WPc.region ?_
        refine WP.val rfl rfl rfl (Val.move rfl rfl) ?_
        refine WP.val rfl rfl rfl (Val.mkFunc rfl rfl rfl) ?_
        refine WP.perm pl4 ?_
        refine WP.eff rfl rfl rfl (Eff.call rfl rfl Try.call113 (walkget_spec E gl b0 o0 hr k g' _ hx hin1 hpos hsx b1 at_)) ?_
        rintro _ _ ⟨_, ⟨rfl, rfl⟩, rfl⟩
        show WP _ _ _ _ _ _ _ (Blk b1 [.int .i64 (at_)] 2 :: E :: Blk b [.slice ka kn kc, .int .i64 (s.md.m), .int .i64 (s.md.s), .slice (some ⟨b0, o0, none⟩) gl.length c0] 153 :: Blk b3 [.int .i64 0, .int .i64 0] 81 :: Blk b2 [.int .i64 0, .int .i64 0] 81 :: F)
        refine WP.val rfl rfl rfl (Val.assign rfl rfl) ?_
        refine WP.nil ?_
        refine Out.next ?_
        refine WPc.seq ?_
        refine WPc.seq ?_
        refine WPc.know 11 (.int .i64 ((n : Nat) : Int)) rfl (congrArg (Value.int .i64) (by omega)) ?_
        refine WPc.region ?_
        refine WP.val rfl rfl rfl (Val.move rfl rfl) ?_
        refine WP.val rfl rfl rfl (Val.neq rfl rfl rfl) ?_
        refine WP.nil ?_
        refine Out.next ?_
        refine WPc.ifP rfl (fun h3 => ?_) (fun h3 => ?_)
        · skip
          have h3 : (((n : Nat) : Int) ≠ (-1 : Int)) := h3
          refine WPc.seq ?_
          refine WPD.start (Sat W [E]) Ty.mixed ?_
          refine WPD.takeM 0 rfl rfl rfl rfl (by kernel_rfl) (by kernel_rfl) (by kernel_rfl) (by kernel_rfl) (fun _ _ _ h => h) (fun w h => ((h.perm pl1)).dropEnd (L := [_])) (Val.move rfl rfl) ?_
          refine WPD.takeM 1 rfl rfl rfl rfl (by kernel_rfl) (by kernel_rfl) (by kernel_rfl) (by kernel_rfl) (fun _ _ _ h => h) (fun w h => ((h.perm pl1)).dropEnd (L := [_])) (Val.nilCheck rfl rfl) ?_
          refine WPD.takeM 2 rfl rfl rfl rfl (by kernel_rfl) (by kernel_rfl) (by kernel_rfl) (by kernel_rfl) (fun _ _ _ h => h) (fun w h => ((h.perm pl1)).dropEnd (L := [_])) (Val.fieldAddr (j := o0 + k * 4 + 3) rfl Ty.fo155_2 rfl rfl) ?_
          refine WPD.take 3 rfl rfl rfl rfl (by kernel_rfl) (by kernel_rfl) (by kernel_rfl) (by kernel_rfl) (fun _ _ _ h => h) (by kernel_rfl) (fun w h => ((h.perm pl1)).dropEnd (L := [_])) (Val.load (v := .slice (some ⟨bi, oi, none⟩) g'.revs.length ci) rfl Ty.sc132 rfl (fun w h => hr w (h.at 0 rfl) k (g', _) hx 3 _ rfl)) ?_
          refine WPD.takeM 4 rfl rfl rfl rfl (by kernel_rfl) (by kernel_rfl) (by kernel_rfl) (by kernel_rfl) (fun _ _ _ h => h) (fun w h => ((h.perm pl1)).dropEnd (L := [_])) (Val.move rfl rfl) ?_
          refine WPD.takeM 5 rfl rfl rfl rfl (by kernel_rfl) (by kernel_rfl) (by kernel_rfl) (by kernel_rfl) (fun _ _ _ h => h) (fun w h => ((h.perm pl1)).dropEnd (L := [_])) (Val.indexAddr (j := n) (q := oi + n * 2) rfl Ty.sl132 rfl rfl (by omega) (by omega) (by omega)) ?_
          refine WPD.take 6 rfl rfl rfl rfl (by kernel_rfl) (by kernel_rfl) (by kernel_rfl) (by kernel_rfl) (fun _ _ _ h => h) (by kernel_rfl) (fun w h => ((h.perm pl1)).dropEnd (L := [_])) (Val.loadAgg (cs := (Rv.cells r)) rfl Ty.ag81 rfl (by rfl) (fun w h => hri w (h.at 0 rfl) n r hrn)) ?_
          refine WPD.takeM 7 rfl rfl rfl rfl (by kernel_rfl) (by kernel_rfl) (by kernel_rfl) (by kernel_rfl) (fun _ _ _ h => h) (fun w h => ((h.perm pl1)).dropEnd (L := [_])) (Val.move rfl rfl) ?_
          refine WPD.takeM 8 rfl rfl rfl rfl (by kernel_rfl) (by kernel_rfl) (by kernel_rfl) (by kernel_rfl) (fun _ _ _ h => h) (fun w h => ((h.perm pl1)).dropEnd (L := [_])) (Val.nilCheck rfl rfl) ?_
          refine WPD.takeM 9 rfl rfl rfl rfl (by kernel_rfl) (by kernel_rfl) (by kernel_rfl) (by kernel_rfl) (fun _ _ _ h => h) (fun w h => ((h.perm pl1)).dropEnd (L := [_])) (Val.fieldAddr (j := o0 + k * 4 + 1) rfl Ty.fo155_1 rfl rfl) ?_
          refine WPD.take 10 rfl rfl rfl rfl (by kernel_rfl) (by kernel_rfl) (by kernel_rfl) (by kernel_rfl) (fun _ _ _ h => h) (by kernel_rfl) (fun w h => ((h.perm pl1)).dropEnd (L := [_])) (Val.loadAgg (cs := [.int .i64 (g'.c.m), .int .i64 (g'.c.s)]) rfl Ty.ag81 rfl (by rfl) (fun w h => (fun j v hj => (by have h9 := hr w (h.at 0 rfl) k (g', _) hx (1 + j) v (by match j, hj with | 0, hj => exact hj | 1, hj => exact hj | j + 2, hj => simp at hj); rw [← Nat.add_assoc] at h9; exact h9)))) ?_
          refine WPD.takeM 11 rfl rfl rfl rfl (by kernel_rfl) (by kernel_rfl) (by kernel_rfl) (by kernel_rfl) (fun _ _ _ h => h) (fun w h => ((h.perm pl1)).dropEnd (L := [_])) (Val.move rfl rfl) ?_
          refine WPD.takeM 12 rfl rfl rfl rfl (by kernel_rfl) (by kernel_rfl) (by kernel_rfl) (by kernel_rfl) (fun _ _ _ h => h) (fun w h => ((h.perm pl1)).dropEnd (L := [_])) (Val.nilCheck rfl rfl) ?_
          refine WPD.takeM 13 rfl rfl rfl rfl (by kernel_rfl) (by kernel_rfl) (by kernel_rfl) (by kernel_rfl) (fun _ _ _ h => h) (fun w h => ((h.perm pl1)).dropEnd (L := [_])) (Val.fieldAddr (j := o0 + k * 4) rfl Ty.fo155_0 rfl rfl) ?_
          refine WPD.take 14 rfl rfl rfl rfl (by kernel_rfl) (by kernel_rfl) (by kernel_rfl) (by kernel_rfl) (fun _ _ _ h => h) (by kernel_rfl) (fun w h => ((h.perm pl1)).dropEnd (L := [_])) (Val.load (v := .int .i64 (g'.v)) rfl Ty.sc2 rfl (fun w h => hr w (h.at 0 rfl) k (g', _) hx 0 _ rfl)) ?_
          refine WPD.takeM 15 rfl rfl rfl rfl (by kernel_rfl) (by kernel_rfl) (by kernel_rfl) (by kernel_rfl) (fun _ _ _ h => h) (fun w h => ((h.perm pl1)).dropEnd (L := [_])) (Val.move rfl rfl) ?_
          refine WPD.takeM 16 rfl rfl rfl rfl (by kernel_rfl) (by kernel_rfl) (by kernel_rfl) (by kernel_rfl) (fun _ _ _ h => h) (fun w h => ((h.perm pl1)).dropEnd (L := [_])) (Val.nilCheck rfl rfl) ?_
          refine WPD.takeM 17 rfl rfl rfl rfl (by kernel_rfl) (by kernel_rfl) (by kernel_rfl) (by kernel_rfl) (fun _ _ _ h => h) (fun w h => ((h.perm pl1)).dropEnd (L := [_])) (Val.fieldAddr (j := o0 + k * 4 + 3) rfl Ty.fo155_2 rfl rfl) ?_
          refine WPD.take 18 rfl rfl rfl rfl (by kernel_rfl) (by kernel_rfl) (by kernel_rfl) (by kernel_rfl) (fun _ _ _ h => h) (by kernel_rfl) (fun w h => ((h.perm pl1)).dropEnd (L := [_])) (Val.load (v := .slice (some ⟨bi, oi, none⟩) g'.revs.length ci) rfl Ty.sc132 rfl (fun w h => hr w (h.at 0 rfl) k (g', _) hx 3 _ rfl)) ?_
          refine WPD.take 19 rfl rfl rfl rfl (by kernel_rfl) (by kernel_rfl) (by kernel_rfl) (by kernel_rfl) (fun _ _ _ h => h) (by kernel_rfl) (fun w h => ((h.perm pl1)).dropEnd (L := [_])) (Val.len rfl Ty.sl132 rfl) ?_
          refine WPD.takeM 20 rfl rfl rfl rfl (by kernel_rfl) (by kernel_rfl) (by kernel_rfl) (by kernel_rfl) (fun _ _ _ h => h) (fun w h => ((h.perm pl1)).dropEnd (L := [_])) (Val.move rfl rfl) ?_
          refine WPD.takeM 21 rfl rfl rfl rfl (by kernel_rfl) (by kernel_rfl) (by kernel_rfl) (by kernel_rfl) (fun _ _ _ h => h) (fun w h => ((h.perm pl1)).dropEnd (L := [_])) (Val.sub (z := ((g'.revs.length - n : Nat) : Int)) rfl rfl rfl ((w64 (by omega) (by omega)).trans (by omega))) ?_
          refine WPD.takeM 22 rfl rfl rfl rfl (by kernel_rfl) (by kernel_rfl) (by kernel_rfl) (by kernel_rfl) (fun _ _ _ h => h) (fun w h => ((h.perm pl1)).dropEnd (L := [_])) (Val.sub (z := ((g'.revs.length - n - 1 : Nat) : Int)) rfl rfl rfl ((w64 (by omega) (by omega)).trans (by omega))) ?_
          refine WPD.takeM 23 rfl rfl rfl rfl (by kernel_rfl) (by kernel_rfl) (by kernel_rfl) (by kernel_rfl) (fun _ _ _ h => h) (fun w h => ((h.perm pl1)).dropEnd (L := [_])) (Val.sub (z := vsub g'.v ((g'.revs.length - n - 1 : Nat) : Int)) rfl rfl rfl rfl) ?_
          refine WPD.perm pl4 ?_
          refine WPD.step0 24 (by kernel_rfl) rfl rfl rfl (Eff.storeAgg (cs := [.int .i64 (r.m), .int .i64 (r.s)]) (C' := [.int .i64 (r.m), .int .i64 (r.s)]) rfl Ty.ag81 rfl rfl rfl rfl (by simp) rfl) ?_
          rintro _ _ rfl
          refine ⟨(fun w h => ((h.perm pl2)).dropEnd (L := [_])), ?_⟩
          refine WPD.perm pl4 ?_
          refine WPD.step0 25 (by kernel_rfl) rfl rfl rfl (Eff.storeAgg (cs := [.int .i64 (g'.c.m), .int .i64 (g'.c.s)]) (C' := [.int .i64 (g'.c.m), .int .i64 (g'.c.s)]) rfl Ty.ag81 rfl rfl rfl rfl (by simp) rfl) ?_
          rintro _ _ rfl
          refine ⟨(fun w h => ((h.perm pl3)).dropEnd (L := [_])), ?_⟩
          refine WPD.takeM 26 rfl rfl rfl rfl (by kernel_rfl) (by kernel_rfl) (by kernel_rfl) (by kernel_rfl) (fun _ _ _ h => h) (fun w h => ((h.perm pl3)).dropEnd (L := [_])) (Val.assign rfl rfl) ?_
          refine WPD.takeM 27 rfl rfl rfl rfl (by kernel_rfl) (by kernel_rfl) (by kernel_rfl) (by kernel_rfl) (fun _ _ _ h => h) (fun w h => ((h.perm pl3)).dropEnd (L := [_])) (Val.assign rfl rfl) ?_
          refine WPD.done (by kernel_rfl) ?_
          refine Out.next ?_
          refine WPc.ret ?_
          refine Out.then_ret ?_
          refine Out.perm pl3 ?_
          refine Out.perm pl4 ?_
          refine Out.conv (fun w h => back w _ h) ?_
          show Out _ _ _ _ _ (KIs b ka kn kc s :: Blk b3 [.int .i64 (g'.c.m), .int .i64 (g'.c.s)] 81 :: Blk b2 [.int .i64 (r.m), .int .i64 (r.s)] 81 :: Blk b1 [.int .i64 (at_)] 2 :: F)
          refine Out.perm pl3 ?_
          refine Out.drop ?_
          refine Out.perm pl1 ?_
          refine Out.perm pl2 ?_
          exact Out.retRun (L' := _) (results_cctt (c1 := _) (c2 := _) Try.results99 rfl rfl Ty.ag81 rfl rfl rfl rfl (fun w h => h.range 0 rfl rfl) (fun w h => h.range 1 rfl rfl)) ⟨_, ⟨r, g'.c, vsub g'.v ((g'.revs.length - n - 1 : Nat) : Int), .inl ⟨kget_some hfg hgk hn hrn, rfl⟩, rfl⟩, rfl⟩ (fun w h => h.drop.drop)
        · skip
          have h3 : ¬ (((n : Nat) : Int) ≠ (-1 : Int)) := h3
          exfalso; omega
set_option maxRecDepth 100000 in
set_option maxHeartbeats 2000000 in
theorem zget_spec (b : Nat) (ka : Option Addr) (kn kc : Nat) (s : KI) (hsm : Small s.gs) (hemp : emp s.gs = false) (at_ : Int) : Does Try.prog 70 [.agg #[.pointer (some ⟨b, 0, none⟩)], .int .i64 (at_)] [KIs b ka kn kc s] (fun v L => ∃ er, GetP s.gs at_ v er ∧ L = [KIs b ka kn kc s]) := by
  refine Does.enter 16 Try.func70 rfl rfl rfl fun W F => ?_
  show WPc _ _ _ _ _ [(0, .agg #[.pointer (some ⟨b, 0, none⟩)]), (1, .int .i64 (at_))] (KIs b ka kn kc s :: F)
  refine WPc.seq ?_
  refine WPc.region ?_
  refine WP.eff rfl rfl rfl (Eff.box (C := [.pointer (some ⟨b, 0, none⟩)]) rfl rfl rfl) ?_
  rintro _ _ ⟨b1, rfl, rfl⟩
  refine WP.eff rfl rfl rfl (Eff.alloc rfl Ty.z81) ?_
  rintro _ _ ⟨b2, rfl, rfl⟩
  refine WP.eff rfl rfl rfl (Eff.alloc rfl Ty.z81) ?_
  rintro _ _ ⟨b3, rfl, rfl⟩
  refine WP.val rfl rfl rfl (Val.assign rfl rfl) ?_
  refine WP.val rfl rfl rfl (Val.assign rfl rfl) ?_
  refine WP.nil ?_
  refine Out.next ?_
  refine WPc.seq ?_
  refine WPc.region ?_
  refine WP.val rfl rfl rfl (Val.fieldAddr (j := 0) rfl Ty.fo78_0 rfl rfl) ?_
  refine WP.val rfl rfl rfl (Val.load rfl Ty.sc76 rfl (fun w h => h.cell 2 rfl rfl)) ?_
  refine WP.val rfl rfl rfl (Val.move rfl rfl) ?_
  refine WP.perm pl3 ?_
  refine WP.eff rfl rfl rfl (Eff.call rfl rfl Try.call99 (get_spec b ka kn kc s hsm hemp at_)) ?_
  rintro _ _ ⟨_, ⟨er, ⟨r, c, x, hget, rfl⟩, rfl⟩, rfl⟩
  show WP _ _ _ _ _ _ _ (KIs b ka kn kc s :: Blk b3 [.int .i64 0, .int .i64 0] 81 :: Blk b2 [.int .i64 0, .int .i64 0] 81 :: Blk b1 [.pointer (some ⟨b, 0, none⟩)] 78 :: F)
  refine WP.val rfl rfl rfl (Val.extract rfl rfl rfl) ?_
  refine WP.val rfl rfl rfl (Val.extract rfl rfl rfl) ?_
  refine WP.val rfl rfl rfl (Val.extract rfl rfl rfl) ?_
  refine WP.val rfl rfl rfl (Val.extract rfl rfl rfl) ?_
  refine WP.perm pl2 ?_
  refine WP.eff0 rfl rfl (Eff.storeAgg (cs := [.int .i64 (r.m), .int .i64 (r.s)]) (C' := [.int .i64 (r.m), .int .i64 (r.s)]) rfl Ty.ag81 rfl rfl rfl rfl (by simp) rfl) ?_
  rintro _ _ rfl
  refine WP.perm pl2 ?_
  refine WP.eff0 rfl rfl (Eff.storeAgg (cs := [.int .i64 (c.m), .int .i64 (c.s)]) (C' := [.int .i64 (c.m), .int .i64 (c.s)]) rfl Ty.ag81 rfl rfl rfl rfl (by simp) rfl) ?_
  rintro _ _ rfl
  refine WP.val rfl rfl rfl (Val.assign rfl rfl) ?_
  refine WP.val rfl rfl rfl (Val.assign rfl rfl) ?_
  refine WP.nil ?_
  refine Out.next ?_
  refine WPc.ret ?_
  refine Out.perm pl3 ?_
  refine Out.drop ?_
  refine Out.perm pl2 ?_
  refine Out.perm pl1 ?_
  refine Out.perm pl2 ?_
  exact Out.retRun (L' := _) (results_cctt (c1 := _) (c2 := _) Try.results70 rfl rfl Ty.ag81 rfl rfl rfl rfl (fun w h => h.range 0 rfl rfl) (fun w h => h.range 1 rfl rfl)) ⟨_, ⟨r, c, x, hget, rfl⟩, rfl⟩ (fun w h => h.drop.drop)

end Go.Proofs.Ythicijpjpijdjaa.Kw

