import Derived.Test.YthicijpjpijdjaaMm
namespace Go.Proofs.Ythicijpjpijdjaa.Kz
open Go.RowKit Go.Proofs.Ythicijpjpijdjaa Go.Proofs.Ythicijpjpijdjaa.Sl Go.Proofs.Ythicijpjpijdjaa.KyP Go.Proofs.Ythicijpjpijdjaa.Ka Go.Proofs.Ythicijpjpijdjaa.Kb Go.Proofs.Ythicijpjpijdjaa.Kc Go.Proofs.Ythicijpjpijdjaa.Kd Go.Proofs.Ythicijpjpijdjaa.Ke Go.Proofs.Ythicijpjpijdjaa.Kf Go.Proofs.Ythicijpjpijdjaa.Kg Go.Proofs.Ythicijpjpijdjaa.Kh Go.Proofs.Ythicijpjpijdjaa.Ki Go.Proofs.Ythicijpjpijdjaa.Kj Go.Proofs.Ythicijpjpijdjaa.Kk Go.Proofs.Ythicijpjpijdjaa.Kl Go.Proofs.Ythicijpjpijdjaa.Km Go.Proofs.Ythicijpjpijdjaa.Kn Go.Proofs.Ythicijpjpijdjaa.Ko Go.Proofs.Ythicijpjpijdjaa.Kp Go.Proofs.Ythicijpjpijdjaa.Kq Go.Proofs.Ythicijpjpijdjaa.Kr Go.Proofs.Ythicijpjpijdjaa.Ks Go.Proofs.Ythicijpjpijdjaa.Kt Go.Proofs.Ythicijpjpijdjaa.Ku Go.Proofs.Ythicijpjpijdjaa.Kv Go.Proofs.Ythicijpjpijdjaa.Kw Go.Proofs.Ythicijpjpijdjaa.Kx Go.Proofs.Ythicijpjpijdjaa.Ky
set_option linter.unusedVariables false
set_option linter.unusedSimpArgs false
set_option linter.unusedSectionVars false


/-- one operation, from one index to the next, with its answer -/
abbrev Stp : Type := KI → KOp → KI → KA → Prop
def StOk (St : Stp) : Prop := ∀ (b : Nat) (ka : Option Addr) (kn kc : Nat) (s : KI) (o : KOp) (s' : KI) (a : KA), St s o s' a → Does Try.prog 35 [.agg #[.pointer (some ⟨b, 0, none⟩)], .agg o.cells.toArray] [KIs b ka kn kc s] (fun v L => ∃ (vr vg : Value) (g2 : List GV), v = KAns a vr s'.md vg ∧ g2.map (·.1) = s'.gs ∧ L = [Own 32 2 vr a.revs.length (flatOf Rv.cells a.revs), Own 53 4 vg g2.length (flatOf GV.cells g2), Kds (GVPe 32) g2, KIs b ka kn kc s'])
def stAt (s : KI) (ans : List (KA × KI)) : Nat → KI
  | 0 => s
  | i + 1 => match ans[i]? with
    | some x => x.2
    | none => s
def Runs (St : Stp) (s : KI) (l : List KOp) (ans : List (KA × KI)) : Prop := ans.length = l.length ∧ ∀ (i : Nat) (o : KOp) (x : KA × KI), l[i]? = some o → ans[i]? = some x → St (stAt s ans i) o x.2 x.1
theorem stAt_step {s : KI} {ans : List (KA × KI)} {i : Nat} {x : KA × KI} (h : ans[i]? = some x) : stAt s ans (i + 1) = x.2 := by
  show (match ans[i]? with | some x => x.2 | none => s) = _
  rw [h]
structure WK where
  a : KA
  s : KI
  vr : Value
  vg : Value
  gl : List GV
def WK.cells (x : WK) : List Value := [.bool x.a.ok, .int .i64 x.a.mod.m, .int .i64 x.a.mod.s, .int .i64 x.a.cre.m, .int .i64 x.a.cre.s, .int .i64 x.a.ver, x.vr, .int .i64 x.s.md.m, .int .i64 x.s.md.s, x.vg]
theorem WK.len (x : WK) : x.cells.length = 10 := rfl
def WK.pr (x : WK) : KA × KI := (x.a, x.s)
def WKP (x : WK) : HProp := Sep [Own 32 2 x.vr x.a.revs.length (flatOf Rv.cells x.a.revs), Own 53 4 x.vg x.gl.length (flatOf GV.cells x.gl), Kds (GVPe 32) x.gl]
theorem againK {W w : World} {O : HProp} {was : List WK} {x : WK} {L : List HProp} (h : Sat W (O :: Own 32 2 x.vr x.a.revs.length (flatOf Rv.cells x.a.revs) :: Own 53 4 x.vg x.gl.length (flatOf GV.cells x.gl) :: Kds (GVPe 32) x.gl :: Kds WKP was :: L) w) : Sat W (O :: Kds WKP (was ++ [x]) :: L) w := by
  have h1 : Sat W ([Own 32 2 x.vr x.a.revs.length (flatOf Rv.cells x.a.revs), Own 53 4 x.vg x.gl.length (flatOf GV.cells x.gl), Kds (GVPe 32) x.gl] ++ (O :: Kds WKP was :: L)) w := h.perm ((List.Perm.swap _ _ _).trans (List.Perm.cons _ ((List.Perm.swap _ _ _).trans (List.Perm.cons _ (List.Perm.swap _ _ _)))))
  have h2 : Sat W (WKP x :: O :: Kds WKP was :: L) w := Sat.sep_mk h1
  have h3 := (h2.perm (show List.Perm _ (WKP x :: Kds WKP was :: O :: L) from List.Perm.cons _ (List.Perm.swap _ _ _))).kConsMk
  have h4 := Sat.kPerm (R := WKP) (ms := was ++ [x]) (by simpa using (List.perm_append_comm (l₁ := [x]) (l₂ := was))) h3
  exact h4.perm (List.Perm.swap _ _ _)
theorem gensK_snoc {was : List WK} {x : WK} (h : ∀ x ∈ was, x.gl.map (·.1) = x.s.gs) (hx : x.gl.map (·.1) = x.s.gs) : ∀ y ∈ was ++ [x], y.gl.map (·.1) = y.s.gs := fun y hy => (List.mem_append.1 hy).elim (h y) (fun hy => by rw [List.mem_singleton.1 hy]; exact hx)
set_option maxRecDepth 100000 in
set_option maxHeartbeats 2000000 in
theorem key1_nil (A : HProp) (bo bu bz b : Nat) (ka : Option Addr) (kn kc : Nat) (St : Stp) (hS : StOk St) (s : KI) (ans : List (KA × KI)) (hruns : Runs St s [] ans) (a : Option Addr) (c : Nat) : Does Try.prog 34 [.pointer (some ⟨bo, 0, none⟩), .pointer (some ⟨bu, 0, none⟩), .pointer (some ⟨bz, 0, none⟩)] [Blk bo [.slice a 0 c] 22, Blk bu [.slice none 0 0] 24, Blk bz [.pointer (some ⟨b, 0, none⟩)] 78, KIs b ka kn kc s, A] (fun v L => v = .tuple #[] ∧ ∃ (v5 : Value) (was : List WK), was.map WK.pr = ans ∧ (∀ x ∈ was, x.gl.map (·.1) = x.s.gs) ∧ L = [Blk bu [v5] 24, Own 42 10 v5 was.length (flatOf WK.cells was), Kds WKP was, KIs b ka kn kc (stAt s ans 0), A]) := by
  refine Does.enter 19 Try.func34 rfl rfl rfl fun W F => ?_
  show WPc _ _ _ _ _ [(0, .pointer (some ⟨bo, 0, none⟩)), (1, .pointer (some ⟨bu, 0, none⟩)), (2, .pointer (some ⟨bz, 0, none⟩))] (Blk bo [.slice a 0 c] 22 :: Blk bu [.slice none 0 0] 24 :: Blk bz [.pointer (some ⟨b, 0, none⟩)] 78 :: KIs b ka kn kc s :: A :: F)
  refine WPc.seq ?_
  refine WPc.conv (fun w h => Sat.kNil (R := WKP) h) ?_
  refine WPc.conv (fun w h => h.ownNil (e := 42) (k := 10)) ?_
  show WPc _ _ _ _ _ _ (Own 42 10 (.slice none 0 0) 0 ([]) :: Kds WKP [] :: Blk bo [.slice a 0 c] 22 :: Blk bu [.slice none 0 0] 24 :: Blk bz [.pointer (some ⟨b, 0, none⟩)] 78 :: KIs b ka kn kc s :: A :: F)
  refine WPc.region ?_
  refine WP.val rfl rfl rfl (Val.assign rfl rfl) ?_
  refine WP.nil ?_
  refine Out.next ?_
  refine WPc.block ?_
  refine WPc.perm pl6 ?_
  refine WPc.perm pl5 ?_
  refine WPc.perm pl4 ?_
  refine WPc.perm pl6 ?_
  refine WPc.perm pl6 ?_
  refine WPc.perm pl6 ?_
  refine WPc.perm pl6 ?_
  refine WPc.loop (ι := Nat × Value × List WK) (fun ⟨i, v5, was⟩ => i ≤ 0 ∧ was.map WK.pr = ans.take i ∧ ∀ x ∈ was, x.gl.map (·.1) = x.s.gs) (fun ⟨i, v5, was⟩ => [(0, .pointer (some ⟨bo, 0, none⟩)), (1, .pointer (some ⟨bu, 0, none⟩)), (2, .pointer (some ⟨bz, 0, none⟩)), (3, .int .i64 (((i : Nat) : Int)))]) (fun ⟨i, v5, was⟩ => Own 42 10 v5 was.length (flatOf WK.cells was) :: Kds WKP was :: Blk bu [v5] 24 :: KIs b ka kn kc (stAt s ans i) :: Blk bo [.slice a 0 c] 22 :: Blk bz [.pointer (some ⟨b, 0, none⟩)] 78 :: A :: F) (fun ⟨i, v5, was⟩ => 0 - i) (0, .slice none 0 0, []) ⟨Nat.zero_le _, rfl, fun x hx => by cases hx⟩ ((Sub.cons rfl (Sub.cons rfl (Sub.cons rfl (Sub.cons rfl Sub.nil))))) (fun _ h => h) ?_
  rintro ⟨i, v5, was⟩ ⟨hi, hwas, hgs⟩
  show WPc _ _ _ _ _ [(0, .pointer (some ⟨bo, 0, none⟩)), (1, .pointer (some ⟨bu, 0, none⟩)), (2, .pointer (some ⟨bz, 0, none⟩)), (3, .int .i64 (((i : Nat) : Int)))] (Own 42 10 v5 was.length (flatOf WK.cells was) :: Kds WKP was :: Blk bu [v5] 24 :: KIs b ka kn kc (stAt s ans i) :: Blk bo [.slice a 0 c] 22 :: Blk bz [.pointer (some ⟨b, 0, none⟩)] 78 :: A :: F)
  replace hi : i ≤ 0 := hi
  replace hwas : was.map WK.pr = ans.take i := hwas
  replace hgs : ∀ x ∈ was, x.gl.map (·.1) = x.s.gs := hgs
  have hwl := congrArg List.length hwas
  rw [List.length_map, List.length_take, hruns.1] at hwl
  refine WPc.seq ?_
  refine WPc.seq ?_
  refine WPc.region ?_
  refine WP.val rfl rfl rfl (Val.move rfl rfl) ?_
  refine WP.val rfl rfl rfl (Val.load rfl Ty.sc22 rfl (fun w h => h.cell 4 rfl rfl)) ?_
  refine WP.val rfl rfl rfl (Val.len rfl Ty.sl22 rfl) ?_
  refine WP.val rfl rfl rfl (Val.lss rfl rfl rfl) ?_
  refine WP.nil ?_
  refine Out.next ?_
  refine WPc.ifP rfl (fun h1 => ?_) (fun h1 => ?_)
  · skip
    have h1 : (((i : Nat) : Int) < (0 : Int)) := h1
    exfalso; omega
  · skip
    have h1 : ¬ (((i : Nat) : Int) < (0 : Int)) := h1
    refine WPc.exit ?_
    refine Out.then_exit ?_
    refine Out.then_exit ?_
    refine Out.block_exit ?_
    have hil : i = 0 := by omega
    rw [hil, ← show ans.length = 0 from hruns.1, List.take_length] at hwas
    refine Out.perm pl4 ?_
    refine Out.drop ?_
    refine Out.perm pl4 ?_
    refine Out.drop ?_
    refine Out.perm pl4 ?_
    refine Out.perm pl4 ?_
    refine Out.perm pl3 ?_
    refine Out.perm pl3 ?_
    refine Out.perm pl4 ?_
    exact Out.end0 (L' := _) Try.results34 ⟨rfl, v5, was, hwas, hgs, rfl⟩ (fun w h => by rw [hil] at h; exact h)

set_option maxRecDepth 100000 in
set_option maxHeartbeats 2000000 in
theorem key1_row (A : HProp) (bo bu bz b : Nat) (ka : Option Addr) (kn kc : Nat) (St : Stp) (hS : StOk St) (s : KI) (ans : List (KA × KI)) (l : List KOp) (hl : l.length ≤ 65540) (hruns : Runs St s l ans) (b0 o0 c0 : Nat) (hr : ∀ w, Holds A w → ∀ i x, l[i]? = some x → w.rangeAt b0 (o0 + i * 7) (KOp.cells x)) : Does Try.prog 34 [.pointer (some ⟨bo, 0, none⟩), .pointer (some ⟨bu, 0, none⟩), .pointer (some ⟨bz, 0, none⟩)] [Blk bo [.slice (some ⟨b0, o0, none⟩) l.length c0] 22, Blk bu [.slice none 0 0] 24, Blk bz [.pointer (some ⟨b, 0, none⟩)] 78, KIs b ka kn kc s, A] (fun v L => v = .tuple #[] ∧ ∃ (v5 : Value) (was : List WK), was.map WK.pr = ans ∧ (∀ x ∈ was, x.gl.map (·.1) = x.s.gs) ∧ L = [Blk bu [v5] 24, Own 42 10 v5 was.length (flatOf WK.cells was), Kds WKP was, KIs b ka kn kc (stAt s ans l.length), A]) := by
  refine Does.enter 19 Try.func34 rfl rfl rfl fun W F => ?_
  show WPc _ _ _ _ _ [(0, .pointer (some ⟨bo, 0, none⟩)), (1, .pointer (some ⟨bu, 0, none⟩)), (2, .pointer (some ⟨bz, 0, none⟩))] (Blk bo [.slice (some ⟨b0, o0, none⟩) l.length c0] 22 :: Blk bu [.slice none 0 0] 24 :: Blk bz [.pointer (some ⟨b, 0, none⟩)] 78 :: KIs b ka kn kc s :: A :: F)
  refine WPc.seq ?_
  refine WPc.conv (fun w h => Sat.kNil (R := WKP) h) ?_
  refine WPc.conv (fun w h => h.ownNil (e := 42) (k := 10)) ?_
  show WPc _ _ _ _ _ _ (Own 42 10 (.slice none 0 0) 0 ([]) :: Kds WKP [] :: Blk bo [.slice (some ⟨b0, o0, none⟩) l.length c0] 22 :: Blk bu [.slice none 0 0] 24 :: Blk bz [.pointer (some ⟨b, 0, none⟩)] 78 :: KIs b ka kn kc s :: A :: F)
  refine WPc.region ?_
  refine WP.val rfl rfl rfl (Val.assign rfl rfl) ?_
  refine WP.nil ?_
  refine Out.next ?_
  refine WPc.block ?_
  refine WPc.perm pl6 ?_
  refine WPc.perm pl5 ?_
  refine WPc.perm pl4 ?_
  refine WPc.perm pl6 ?_
  refine WPc.perm pl6 ?_
  refine WPc.perm pl6 ?_
  refine WPc.perm pl6 ?_
  refine WPc.loop (ι := Nat × Value × List WK) (fun ⟨i, v5, was⟩ => i ≤ l.length ∧ was.map WK.pr = ans.take i ∧ ∀ x ∈ was, x.gl.map (·.1) = x.s.gs) (fun ⟨i, v5, was⟩ => [(0, .pointer (some ⟨bo, 0, none⟩)), (1, .pointer (some ⟨bu, 0, none⟩)), (2, .pointer (some ⟨bz, 0, none⟩)), (3, .int .i64 (((i : Nat) : Int)))]) (fun ⟨i, v5, was⟩ => Own 42 10 v5 was.length (flatOf WK.cells was) :: Kds WKP was :: Blk bu [v5] 24 :: KIs b ka kn kc (stAt s ans i) :: Blk bo [.slice (some ⟨b0, o0, none⟩) l.length c0] 22 :: Blk bz [.pointer (some ⟨b, 0, none⟩)] 78 :: A :: F) (fun ⟨i, v5, was⟩ => l.length - i) (0, .slice none 0 0, []) ⟨Nat.zero_le _, rfl, fun x hx => by cases hx⟩ ((Sub.cons rfl (Sub.cons rfl (Sub.cons rfl (Sub.cons rfl Sub.nil))))) (fun _ h => h) ?_
  rintro ⟨i, v5, was⟩ ⟨hi, hwas, hgs⟩
  show WPc _ _ _ _ _ [(0, .pointer (some ⟨bo, 0, none⟩)), (1, .pointer (some ⟨bu, 0, none⟩)), (2, .pointer (some ⟨bz, 0, none⟩)), (3, .int .i64 (((i : Nat) : Int)))] (Own 42 10 v5 was.length (flatOf WK.cells was) :: Kds WKP was :: Blk bu [v5] 24 :: KIs b ka kn kc (stAt s ans i) :: Blk bo [.slice (some ⟨b0, o0, none⟩) l.length c0] 22 :: Blk bz [.pointer (some ⟨b, 0, none⟩)] 78 :: A :: F)
  replace hi : i ≤ l.length := hi
  replace hwas : was.map WK.pr = ans.take i := hwas
  replace hgs : ∀ x ∈ was, x.gl.map (·.1) = x.s.gs := hgs
  have hwl := congrArg List.length hwas
  rw [List.length_map, List.length_take, hruns.1] at hwl
  refine WPc.seq ?_
  refine WPc.seq ?_
  refine WPc.region ?_
  refine WP.val rfl rfl rfl (Val.move rfl rfl) ?_
  refine WP.val rfl rfl rfl (Val.load rfl Ty.sc22 rfl (fun w h => h.cell 4 rfl rfl)) ?_
  refine WP.val rfl rfl rfl (Val.len rfl Ty.sl22 rfl) ?_
  refine WP.val rfl rfl rfl (Val.lss rfl rfl rfl) ?_
  refine WP.nil ?_
  refine Out.next ?_
  refine WPc.ifP rfl (fun h1 => ?_) (fun h1 => ?_)
  · skip
    have h1 : (((i : Nat) : Int) < ((l.length : Nat) : Int)) := h1
    refine WPc.skip ?_
    refine Out.next ?_
    refine WPc.seq ?_
    refine WPc.block ?_
    have hlt : i < l.length := by omega
    obtain ⟨o, hx⟩ : ∃ o, l[i]? = some o := ⟨_, List.getElem?_eq_getElem hlt⟩
    obtain ⟨x, hxa⟩ : ∃ x, ans[i]? = some x := ⟨_, List.getElem?_eq_getElem (by rw [hruns.1]; exact hlt)⟩
    refine WPD.start (Sat W [Blk bu [v5] 24, Blk bz [.pointer (some ⟨b, 0, none⟩)] 78, Blk bo [.slice (some ⟨b0, o0, none⟩) l.length c0] 22, A]) Ty.mixed ?_
    refine WPD.take 0 rfl rfl rfl rfl (by kernel_rfl) (by kernel_rfl) (by kernel_rfl) (by kernel_rfl) (fun _ _ _ h => h) (by kernel_rfl) (fun w h => (((((h.perm pl6).perm pl5).perm pl6).perm pl5)).dropEnd (L := [_, _, _, _])) (Val.load rfl Ty.sc24 rfl (fun w h => h.cell 0 rfl rfl)) ?_
    refine WPD.take 1 rfl rfl rfl rfl (by kernel_rfl) (by kernel_rfl) (by kernel_rfl) (by kernel_rfl) (fun _ _ _ h => h) (by kernel_rfl) (fun w h => (((((h.perm pl6).perm pl5).perm pl6).perm pl5)).dropEnd (L := [_, _, _, _])) (Val.loadAgg (cs := [.pointer (some ⟨b, 0, none⟩)]) rfl Ty.ag78 rfl rfl (fun w h => h.range 1 rfl rfl)) ?_
    refine WPD.take 2 rfl rfl rfl rfl (by kernel_rfl) (by kernel_rfl) (by kernel_rfl) (by kernel_rfl) (fun _ _ _ h => h) (by kernel_rfl) (fun w h => (((((h.perm pl6).perm pl5).perm pl6).perm pl5)).dropEnd (L := [_, _, _, _])) (Val.load rfl Ty.sc22 rfl (fun w h => h.cell 2 rfl rfl)) ?_
    refine WPD.takeM 3 rfl rfl rfl rfl (by kernel_rfl) (by kernel_rfl) (by kernel_rfl) (by kernel_rfl) (fun _ _ _ h => h) (fun w h => (((((h.perm pl6).perm pl5).perm pl6).perm pl5)).dropEnd (L := [_, _, _, _])) (Val.move rfl rfl) ?_
    refine WPD.takeM 4 rfl rfl rfl rfl (by kernel_rfl) (by kernel_rfl) (by kernel_rfl) (by kernel_rfl) (fun _ _ _ h => h) (fun w h => (((((h.perm pl6).perm pl5).perm pl6).perm pl5)).dropEnd (L := [_, _, _, _])) (Val.indexAddr (j := i) (q := o0 + i * 7) rfl Ty.sl22 rfl rfl (by omega) (by omega) (by omega)) ?_
    refine WPD.take 5 rfl rfl rfl rfl (by kernel_rfl) (by kernel_rfl) (by kernel_rfl) (by kernel_rfl) (fun _ _ _ h => h) (by kernel_rfl) (fun w h => (((((h.perm pl6).perm pl5).perm pl6).perm pl5)).dropEnd (L := [_, _, _, _])) (Val.loadAgg (cs := (KOp.cells o)) rfl Ty.ag38 rfl (by rfl) (fun w h => hr w (h.at 3 rfl) i o hx)) ?_
    refine WPD.perm pl3 ?_
    refine WPD.step 6 (by kernel_rfl) rfl rfl rfl rfl (Eff.call rfl rfl Try.call35 (hS b ka kn kc _ _ _ _ (hruns.2 i o x hx hxa))) ?_
    rintro _ _ ⟨_, ⟨vr, vg, g2, rfl, hg2, rfl⟩, rfl⟩
    refine ⟨(fun w h => (((((h.perm pl9).perm pl8).perm pl9).perm pl9)).dropEnd (L := [_, _, _, _])), ?_⟩
    show WPD _ _ _ _ _ _ _ _ _ (Own 32 2 vr x.1.revs.length (flatOf Rv.cells x.1.revs) :: Own 53 4 vg g2.length (flatOf GV.cells g2) :: Kds (GVPe 32) g2 :: KIs b ka kn kc x.2 :: Own 42 10 v5 was.length (flatOf WK.cells was) :: Kds WKP was :: Blk bu [v5] 24 :: Blk bo [.slice (some ⟨b0, o0, none⟩) l.length c0] 22 :: Blk bz [.pointer (some ⟨b, 0, none⟩)] 78 :: A :: F)
    refine WPD.fact (fun w h => own_oneCell h) (fun onr => ?_)
    refine WPD.perm pl1 ?_
    refine WPD.fact (fun w h => own_oneCell h) (fun ong => ?_)
    refine WPD.step 7 (by kernel_rfl) rfl rfl rfl rfl (Eff.mkSlice (C := [.bool (x.1.ok), .int .i64 (x.1.mod.m), .int .i64 (x.1.mod.s), .int .i64 (x.1.cre.m), .int .i64 (x.1.cre.s), .int .i64 (x.1.ver), vr, .int .i64 (x.2.md.m), .int .i64 (x.2.md.s), vg]) rfl Ty.sl24 rfl (fun _ => by kernel_rfl)) ?_
    rintro _ _ ⟨b1, rfl, rfl⟩
    refine ⟨(fun w h => (((((h.perm pl10).perm pl9).perm pl10).perm pl10)).dropEnd (L := [_, _, _, _])), ?_⟩
    refine WPD.perm pl5 ?_
    refine WPD.stepC 8 (by kernel_rfl) rfl rfl rfl rfl (by kernel_rfl) (Eff.append (m := 1) (n0 := was.length) (news := [.bool (x.1.ok), .int .i64 (x.1.mod.m), .int .i64 (x.1.mod.s), .int .i64 (x.1.cre.m), .int .i64 (x.1.cre.s), .int .i64 (x.1.ver), vr, .int .i64 (x.2.md.m), .int .i64 (x.2.md.s), vg]) rfl Ty.sl24 Ty.z42 rfl rfl rfl (.slice Ty.sl24 rfl (by simp only [List.all_cons, List.all_nil, Bool.and_true, oc_int, oc_str, oc_bool, oc_ptr, oc_slice, oc_iface, oc_map, onr, ong]) (fun w h => cells_range (h.range 1 rfl rfl))) (by omega) (by omega)) ?_
    rintro v2 _ ⟨onev2, rfl⟩
    refine ⟨(Sat W (Own 42 10 v2 (was.length + 1) ((flatOf WK.cells was) ++ ([.bool (x.1.ok), .int .i64 (x.1.mod.m), .int .i64 (x.1.mod.s), .int .i64 (x.1.cre.m), .int .i64 (x.1.cre.s), .int .i64 (x.1.ver), vr, .int .i64 (x.2.md.m), .int .i64 (x.2.md.s), vg])) :: Blk b1 [.bool (x.1.ok), .int .i64 (x.1.mod.m), .int .i64 (x.1.mod.s), .int .i64 (x.1.cre.m), .int .i64 (x.1.cre.s), .int .i64 (x.1.ver), vr, .int .i64 (x.2.md.m), .int .i64 (x.2.md.s), vg] 42 :: Own 53 4 vg g2.length (flatOf GV.cells g2) :: Own 32 2 vr x.1.revs.length (flatOf Rv.cells x.1.revs) :: Kds (GVPe 32) g2 :: KIs b ka kn kc x.2 :: Kds WKP was :: Blk bu [v5] 24 :: Blk bo [.slice (some ⟨b0, o0, none⟩) l.length c0] 22 :: Blk bz [.pointer (some ⟨b, 0, none⟩)] 78 :: A :: F)), (fun _ h => h), ?_⟩
    refine WPD.perm pl7 ?_
    refine WPD.stepC0 9 (by kernel_rfl) rfl rfl rfl (by kernel_rfl) (Eff.store rfl Ty.sc24 rfl rfl onev2 (by simp) st0) ?_
    rintro _ _ rfl
    refine ⟨(Sat W (Blk bu [v2] 24 :: Own 42 10 v2 (was.length + 1) ((flatOf WK.cells was) ++ ([.bool (x.1.ok), .int .i64 (x.1.mod.m), .int .i64 (x.1.mod.s), .int .i64 (x.1.cre.m), .int .i64 (x.1.cre.s), .int .i64 (x.1.ver), vr, .int .i64 (x.2.md.m), .int .i64 (x.2.md.s), vg])) :: Blk b1 [.bool (x.1.ok), .int .i64 (x.1.mod.m), .int .i64 (x.1.mod.s), .int .i64 (x.1.cre.m), .int .i64 (x.1.cre.s), .int .i64 (x.1.ver), vr, .int .i64 (x.2.md.m), .int .i64 (x.2.md.s), vg] 42 :: Own 53 4 vg g2.length (flatOf GV.cells g2) :: Own 32 2 vr x.1.revs.length (flatOf Rv.cells x.1.revs) :: Kds (GVPe 32) g2 :: KIs b ka kn kc x.2 :: Kds WKP was :: Blk bo [.slice (some ⟨b0, o0, none⟩) l.length c0] 22 :: Blk bz [.pointer (some ⟨b, 0, none⟩)] 78 :: A :: F)), (fun _ h => h), ?_⟩
    refine WPD.done (by kernel_rfl) ?_
    refine Out.block ?_
    refine Out.next ?_
    refine WPc.region ?_
    refine WP.val rfl rfl rfl (Val.move rfl rfl) ?_
    refine WP.val rfl rfl rfl (Val.add (z := ((i + 1 : Nat) : Int)) rfl rfl rfl ((w64 (by omega) (by omega)).trans (by omega))) ?_
    refine WP.val rfl rfl rfl (Val.assign rfl rfl) ?_
    refine WP.nil ?_
    refine Out.perm pl2 ?_
    refine Out.drop ?_
    refine Out.perm pl9 ?_
    refine Out.perm pl9 ?_
    refine Out.perm pl9 ?_
    refine Out.perm pl8 ?_
    refine Out.perm pl4 ?_
    refine Out.perm pl9 ?_
    refine Out.perm pl9 ?_
    refine Out.perm pl8 ?_
    refine Out.perm pl9 ?_
    refine Out.perm pl9 ?_
    refine Out.again (i + 1, v2, was ++ [⟨x.1, x.2, vr, vg, g2⟩]) ?_ ?_ ?_ ?_
    · exact (by refine ⟨by show i + 1 ≤ l.length; omega, ?_, gensK_snoc hgs hg2⟩; rw [take_more hxa, List.map_append, hwas]; rfl)
    · (dsimp only; omega)
    · exact (Sub.cons rfl (Sub.cons rfl (Sub.cons rfl (Sub.cons rfl Sub.nil))))
    · exact (fun w h => againK (x := ⟨x.1, x.2, vr, vg, g2⟩) (by dsimp only; rw [stAt_step hxa, flatOf_append, flatOf_one, List.length_append]; exact h))
  · skip
    have h1 : ¬ (((i : Nat) : Int) < ((l.length : Nat) : Int)) := h1
    refine WPc.exit ?_
    refine Out.then_exit ?_
    refine Out.then_exit ?_
    refine Out.block_exit ?_
    have hil : i = l.length := by omega
    rw [hil, ← hruns.1, List.take_length] at hwas
    refine Out.perm pl4 ?_
    refine Out.drop ?_
    refine Out.perm pl4 ?_
    refine Out.drop ?_
    refine Out.perm pl4 ?_
    refine Out.perm pl4 ?_
    refine Out.perm pl3 ?_
    refine Out.perm pl3 ?_
    refine Out.perm pl4 ?_
    exact Out.end0 (L' := _) Try.results34 ⟨rfl, v5, was, hwas, hgs, rfl⟩ (fun w h => by rw [hil] at h; exact h)

theorem key1_spec (A : HProp) (bo bu bz b : Nat) (ka : Option Addr) (kn kc : Nat) (St : Stp) (hS : StOk St) (s : KI) (ans : List (KA × KI)) (l : List KOp) (hl : l.length ≤ 65540) (hruns : Runs St s l ans) (va : Value) (hva : Rd A 7 KOp.cells va l) : Does Try.prog 34 [.pointer (some ⟨bo, 0, none⟩), .pointer (some ⟨bu, 0, none⟩), .pointer (some ⟨bz, 0, none⟩)] [Blk bo [va] 22, Blk bu [.slice none 0 0] 24, Blk bz [.pointer (some ⟨b, 0, none⟩)] 78, KIs b ka kn kc s, A] (fun v L => v = .tuple #[] ∧ ∃ (v5 : Value) (was : List WK), was.map WK.pr = ans ∧ (∀ x ∈ was, x.gl.map (·.1) = x.s.gs) ∧ L = [Blk bu [v5] 24, Own 42 10 v5 was.length (flatOf WK.cells was), Kds WKP was, KIs b ka kn kc (stAt s ans l.length), A]) := by
  rcases hva with ⟨b0, o0, c0, rfl, hr⟩ | ⟨rfl, a, c, rfl⟩
  · exact key1_row A bo bu bz b ka kn kc St hS s ans l hl hruns b0 o0 c0 hr
  · exact key1_nil A bo bu bz b ka kn kc St hS s ans hruns a c

end Go.Proofs.Ythicijpjpijdjaa.Kz

namespace Go.Proofs.Ythicijpjpijdjaa.La
open Go.RowKit Go.Proofs.Ythicijpjpijdjaa Go.Proofs.Ythicijpjpijdjaa.Sl Go.Proofs.Ythicijpjpijdjaa.KyP Go.Proofs.Ythicijpjpijdjaa.Ka Go.Proofs.Ythicijpjpijdjaa.Kb Go.Proofs.Ythicijpjpijdjaa.Kc Go.Proofs.Ythicijpjpijdjaa.Kd Go.Proofs.Ythicijpjpijdjaa.Ke Go.Proofs.Ythicijpjpijdjaa.Kf Go.Proofs.Ythicijpjpijdjaa.Kg Go.Proofs.Ythicijpjpijdjaa.Kh Go.Proofs.Ythicijpjpijdjaa.Ki Go.Proofs.Ythicijpjpijdjaa.Kj Go.Proofs.Ythicijpjpijdjaa.Kk Go.Proofs.Ythicijpjpijdjaa.Kl Go.Proofs.Ythicijpjpijdjaa.Km Go.Proofs.Ythicijpjpijdjaa.Kn Go.Proofs.Ythicijpjpijdjaa.Ko Go.Proofs.Ythicijpjpijdjaa.Kp Go.Proofs.Ythicijpjpijdjaa.Kq Go.Proofs.Ythicijpjpijdjaa.Kr Go.Proofs.Ythicijpjpijdjaa.Ks Go.Proofs.Ythicijpjpijdjaa.Kt Go.Proofs.Ythicijpjpijdjaa.Ku Go.Proofs.Ythicijpjpijdjaa.Kv Go.Proofs.Ythicijpjpijdjaa.Kw Go.Proofs.Ythicijpjpijdjaa.Kx Go.Proofs.Ythicijpjpijdjaa.Ky Go.Proofs.Ythicijpjpijdjaa.Kz
set_option linter.unusedVariables false
set_option linter.unusedSimpArgs false
set_option linter.unusedSectionVars false

set_option maxRecDepth 100000 in
set_option maxHeartbeats 2000000 in
theorem key_slice (Ad B : HProp) (key : ByteArray) (md : Rv) (St : Stp) (hS : StOk St) (ans : List (KA × KI)) (gl0 : List GV) (hsm : Small (gl0.map (·.1))) (l : List KOp) (hl : l.length ≤ 65540) (hruns : Runs St ⟨md, gl0.map (·.1)⟩ l ans) (sa oa : Option Addr) (sc oc : Nat) (hd : RdG Ad (.slice sa gl0.length sc) gl0) (ho : Rd B 7 KOp.cells (.slice oa l.length oc) l) : Does Try.prog 10 [.string key, .agg #[.int .i64 (md.m), .int .i64 (md.s), .slice sa gl0.length sc], .slice oa l.length oc] [Ad, B] (fun v L => ∃ (v5 : Value) (was : List WK), was.map WK.pr = ans ∧ (∀ x ∈ was, x.gl.map (·.1) = x.s.gs) ∧ v = .tuple #[v5, .bool true] ∧ L = [Own 42 10 v5 was.length (flatOf WK.cells was), Kds WKP was, Ad, B]) := by
  refine Does.enter 20 Try.func10 rfl rfl rfl fun W F => ?_
  show WPc _ _ _ _ _ [(0, .string key), (1, .agg #[.int .i64 (md.m), .int .i64 (md.s), .slice sa gl0.length sc]), (2, .slice oa l.length oc)] (Ad :: B :: F)
  refine WPc.seq ?_
  refine WPc.region ?_
  refine WP.eff rfl rfl rfl (Eff.box (C := [.int .i64 (md.m), .int .i64 (md.s), .slice sa gl0.length sc]) rfl rfl rfl) ?_
  rintro _ _ ⟨b1, rfl, rfl⟩
  refine WP.eff rfl rfl rfl (Eff.box (C := [.slice oa l.length oc]) rfl rfl rfl) ?_
  rintro _ _ ⟨b2, rfl, rfl⟩
  refine WP.val rfl rfl rfl (Val.assign rfl rfl) ?_
  refine WP.val rfl rfl rfl (Val.assign rfl rfl) ?_
  refine WP.nil ?_
  refine Out.next ?_
  refine WPc.seq ?_
  refine WPc.region ?_
  refine WP.val rfl rfl rfl (Val.move rfl rfl) ?_
  refine WP.eff rfl rfl rfl (Eff.bytes rfl Ty.st9 Ty.by80 rfl) ?_
  rintro _ _ ⟨b3, capb3, spb3, rfl, hcb3, hsb3, rfl⟩
  refine WP.val rfl rfl rfl (Val.loadAgg (cs := [.int .i64 (md.m), .int .i64 (md.s), .slice sa gl0.length sc]) rfl Ty.ag35 rfl rfl (fun w h => h.range 2 rfl rfl)) ?_
  refine WP.perm pl3 ?_
  refine WP.eff rfl rfl rfl (Eff.call rfl rfl Try.call32 (dumpin_spec Ad md gl0 hsm hd.inn (.slice sa gl0.length sc) hd.rd)) ?_
  rintro _ _ ⟨_, ⟨v2, g2, rfl, hg2, rfl⟩, rfl⟩
  show WP _ _ _ _ _ _ _ (Own 135 4 v2 g2.length (flatOf GV.cells g2) :: Kds (GVPe 81) g2 :: Ad :: Blk b3 (byteCells key ++ spb3) 5 :: Blk b2 [.slice oa l.length oc] 22 :: Blk b1 [.int .i64 (md.m), .int .i64 (md.s), .slice sa gl0.length sc] 35 :: B :: F)
  refine WP.perm pl1 ?_
  refine WP.perm pl1 ?_
  refine WP.open (fun w h => gens_open h) ?_
  rintro E2
  refine WP.pure (fun hE2 => ?_)
  obtain ⟨rE2, backE2⟩ := hE2
  show WP _ _ _ _ _ _ _ (E2 :: Ad :: Blk b3 (byteCells key ++ spb3) 5 :: Blk b2 [.slice oa l.length oc] 22 :: Blk b1 [.int .i64 (md.m), .int .i64 (md.s), .slice sa gl0.length sc] 35 :: B :: F)
  have hs2 : Small (g2.map (·.1)) := by rw [hg2]; exact hsm
  refine WP.eff rfl rfl rfl (Eff.call rfl rfl Try.call31 (newkey_spec E2 (some ⟨b3, 0, none⟩) ((key).size) capb3 md g2 hs2 v2 rE2)) ?_
  rintro _ _ ⟨_, ⟨b, v3, g3, rfl, hg3, rfl⟩, rfl⟩
  show WP _ _ _ _ _ _ _ (Blk b [.slice (some ⟨b3, 0, none⟩) ((key).size) capb3, .int .i64 (md.m), .int .i64 (md.s), v3] 153 :: Own 155 4 v3 g3.length (flatOf GV.cells g3) :: Kds (GVPe 81) g3 :: E2 :: Ad :: Blk b3 (byteCells key ++ spb3) 5 :: Blk b2 [.slice oa l.length oc] 22 :: Blk b1 [.int .i64 (md.m), .int .i64 (md.s), .slice sa gl0.length sc] 35 :: B :: F)
  refine WP.perm pl2 ?_
  refine WP.perm pl2 ?_
  refine WP.perm pl2 ?_
  refine WP.conv (fun w h => kis_new (s := ⟨md, gl0.map (·.1)⟩) (hg3.trans hg2) h) ?_
  show WP _ _ _ _ _ _ _ (KIs b (some ⟨b3, 0, none⟩) ((key).size) capb3 ⟨md, gl0.map (·.1)⟩ :: E2 :: Ad :: Blk b3 (byteCells key ++ spb3) 5 :: Blk b2 [.slice oa l.length oc] 22 :: Blk b1 [.int .i64 (md.m), .int .i64 (md.s), .slice sa gl0.length sc] 35 :: B :: F)
  refine WP.eff rfl rfl rfl (Eff.alloc rfl Ty.z78) ?_
  rintro _ _ ⟨b4, rfl, rfl⟩
  refine WP.eff0 rfl rfl (Eff.storeAgg (cs := [.pointer (some ⟨b, 0, none⟩)]) (C' := [.pointer (some ⟨b, 0, none⟩)]) rfl Ty.ag78 rfl rfl rfl rfl (by simp) rfl) ?_
  rintro _ _ rfl
  refine WP.nil ?_
  refine Out.next ?_
  refine WPc.seq ?_
  refine WPc.region ?_
  refine WP.eff rfl rfl rfl (Eff.alloc rfl Ty.z24) ?_
  rintro _ _ ⟨b5, rfl, rfl⟩
  refine WP.nil ?_
  refine Out.next ?_
  refine WPc.seq ?_
  refine WPc.region ?_
  refine WP.val rfl rfl rfl (Val.mkFunc rfl rfl rfl) ?_
  refine WP.perm pl8 ?_
  refine WP.perm pl3 ?_
  refine WP.perm pl3 ?_
  refine WP.perm pl3 ?_
  refine WP.perm pl7 ?_
  refine WP.eff rfl rfl rfl (Eff.call rfl rfl Try.call33 (fine_does (k := 34) (caps := [.pointer (some ⟨b2, 0, none⟩), .pointer (some ⟨b5, 0, none⟩), .pointer (some ⟨b4, 0, none⟩)]) Try.call34 (key1_spec B b2 b5 b4 b (some ⟨b3, 0, none⟩) ((key).size) capb3 St hS ⟨md, gl0.map (·.1)⟩ ans l hl hruns (.slice oa l.length oc) ho))) ?_
  rintro _ _ ⟨_, ⟨rfl, v5, was, hwas, hgs, rfl⟩, rfl⟩
  show WP _ _ _ _ _ _ _ (Blk b5 [v5] 24 :: Own 42 10 v5 was.length (flatOf WK.cells was) :: Kds WKP was :: KIs b (some ⟨b3, 0, none⟩) ((key).size) capb3 (stAt ⟨md, gl0.map (·.1)⟩ ans l.length) :: B :: E2 :: Ad :: Blk b3 (byteCells key ++ spb3) 5 :: Blk b1 [.int .i64 (md.m), .int .i64 (md.s), .slice sa gl0.length sc] 35 :: F)
  refine WP.val rfl rfl rfl (Val.assign rfl rfl) ?_
  refine WP.nil ?_
  refine Out.next ?_
  refine WPc.seq ?_
  refine WPc.region ?_
  refine WP.val rfl rfl rfl (Val.load rfl Ty.sc24 rfl (fun w h => h.cell 0 rfl rfl)) ?_
  refine WP.val rfl rfl rfl (Val.move rfl rfl) ?_
  refine WP.val rfl rfl rfl (Val.assign rfl rfl) ?_
  refine WP.val rfl rfl rfl (Val.assign rfl rfl) ?_
  refine WP.nil ?_
  refine Out.next ?_
  refine WPc.ret ?_
  refine Out.drop ?_
  refine Out.perm pl2 ?_
  refine Out.drop ?_
  refine Out.perm pl3 ?_
  refine Out.drop ?_
  refine Out.perm pl4 ?_
  refine Out.drop ?_
  refine Out.perm pl4 ?_
  refine Out.drop ?_
  refine Out.perm pl2 ?_
  refine Out.perm pl3 ?_
  refine Out.perm pl3 ?_
  refine Out.perm pl3 ?_
  exact Out.ret2 (L' := _) Try.results10 rfl rfl ⟨v5, was, hwas, hgs, rfl, rfl⟩ (fun _ h => h)
theorem key_spec (Ad B : HProp) (key : ByteArray) (md : Rv) (St : Stp) (hS : StOk St) (ans : List (KA × KI)) (gl0 : List GV) (hsm : Small (gl0.map (·.1))) (l : List KOp) (hl : l.length ≤ 65540) (hruns : Runs St ⟨md, gl0.map (·.1)⟩ l ans) (vd vo : Value) (hd : RdG Ad vd gl0) (ho : Rd B 7 KOp.cells vo l) : Does Try.prog 10 [.string key, .agg #[.int .i64 md.m, .int .i64 md.s, vd], vo] [Ad, B] (fun v L => ∃ (v5 : Value) (was : List WK), was.map WK.pr = ans ∧ (∀ x ∈ was, x.gl.map (·.1) = x.s.gs) ∧ v = .tuple #[v5, .bool true] ∧ L = [Own 42 10 v5 was.length (flatOf WK.cells was), Kds WKP was, Ad, B]) := by
  obtain ⟨sa, sc, rfl⟩ := Rd.slice hd.rd
  obtain ⟨oa, oc, rfl⟩ := Rd.slice ho
  exact key_slice Ad B key md St hS ans gl0 hsm l hl hruns sa oa sc oc hd ho

end Go.Proofs.Ythicijpjpijdjaa.La

