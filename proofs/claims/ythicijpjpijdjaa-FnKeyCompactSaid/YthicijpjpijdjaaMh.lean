import Derived.Test.YthicijpjpijdjaaMg
namespace Go.Proofs.Ythicijpjpijdjaa.Kn
open Go.RowKit Go.Proofs.Ythicijpjpijdjaa Go.Proofs.Ythicijpjpijdjaa.Sl Go.Proofs.Ythicijpjpijdjaa.KyP Go.Proofs.Ythicijpjpijdjaa.Ka Go.Proofs.Ythicijpjpijdjaa.Kb Go.Proofs.Ythicijpjpijdjaa.Kc Go.Proofs.Ythicijpjpijdjaa.Kd Go.Proofs.Ythicijpjpijdjaa.Ke Go.Proofs.Ythicijpjpijdjaa.Kf Go.Proofs.Ythicijpjpijdjaa.Kg Go.Proofs.Ythicijpjpijdjaa.Kh Go.Proofs.Ythicijpjpijdjaa.Ki Go.Proofs.Ythicijpjpijdjaa.Kj Go.Proofs.Ythicijpjpijdjaa.Kk Go.Proofs.Ythicijpjpijdjaa.Kl Go.Proofs.Ythicijpjpijdjaa.Km
set_option linter.unusedVariables false
set_option linter.unusedSimpArgs false
set_option linter.unusedSectionVars false


/-- an own row can be read, and stays one's own -/
theorem own_rdB {α : Type} {W w : World} {e : TypeId} {k : Nat} {v : Value} {cf : α → List Value} {l : List α} {L : List HProp} (hk : ∀ x, (cf x).length = k) (h : Sat W (Own e k v l.length (flatOf cf l) :: L) w) : ∃ A : HProp, Rd A k cf v l ∧ Sat W (A :: L) w ∧ ∀ w L, Sat W (A :: L) w → Sat W (Own e k v l.length (flatOf cf l) :: L) w := by
  rcases h.own with ⟨rfl, h0, h1, h2⟩ | ⟨b, cap, sp, rfl, h1, h2, h3, h4, h5⟩
  · obtain rfl := List.eq_nil_of_length_eq_zero h0
    exact ⟨Pure True, .inr ⟨rfl, none, 0, rfl⟩, Sat.pure_mk trivial h2, fun w L h => h.drop.ownNil⟩
  · refine ⟨Blk b (flatOf cf l ++ sp) e, .inl ⟨b, 0, cap, rfl, fun w hw i x hx => ?_⟩, h5, fun w L h => Sat.ownMk h h1 h2 h3 h4⟩
    rw [Nat.zero_add]
    exact hw.cell_range (flatOf_range hk hx)
def GVPe (e : TypeId) (p : GV) : HProp := Own e 2 p.2 p.1.revs.length (flatOf Rv.cells p.1.revs)
theorem own_slice {w : World} {W : World} {e : TypeId} {k m : Nat} {v : Value} {xs : List Value} {L : List HProp} (h : Sat W (Own e k v m xs :: L) w) : ∃ a c, v = .slice a m c := by
  rcases h.own with ⟨rfl, rfl, h1, h2⟩ | ⟨b, cap, sp, rfl, h1⟩
  · exact ⟨_, _, rfl⟩
  · exact ⟨_, _, rfl⟩
/-- lives that are read from one part -/
structure RdG (E : HProp) (vg : Value) (gl : List GV) : Prop where
  rd : Rd E 4 GV.cells vg gl
  inn : ∀ p ∈ gl, Rd E 2 Rv.cells p.2 p.1.revs
def Small (gs : List Gn) : Prop := gs.length ≤ 200000 ∧ ∀ g ∈ gs, g.revs.length ≤ 200000
theorem Small.inn {gl : List GV} (h : Small (gl.map (·.1))) {p : GV} (hp : p ∈ gl) : p.1.revs.length ≤ 200000 := h.2 p.1 (List.mem_map_of_mem hp)
theorem Small.len {gl : List GV} (h : Small (gl.map (·.1))) : gl.length ≤ 200000 := by have := h.1; rwa [List.length_map] at this
theorem small_dgens {l : List Vn} (h : l.length ≤ 100000) : Small (dgens l) := by
  have h1 := dgo_len l
  have h2 := inner_len l
  unfold dgens
  constructor
  · rw [List.length_append]; split <;> simp <;> omega
  · intro g hg
    rcases List.mem_append.1 hg with hg | hg
    · have := h2 g hg; omega
    · split at hg
      · rw [List.mem_singleton.1 hg]; exact Nat.zero_le _
      · cases hg
theorem kds_rdB {W : World} {e : TypeId} : ∀ (gl : List GV) (w : World) (L : List HProp), Sat W (Kds (GVPe e) gl :: L) w → ∃ E : HProp, (∀ p ∈ gl, Rd E 2 Rv.cells p.2 p.1.revs) ∧ Sat W (E :: L) w ∧ ∀ w L, Sat W (E :: L) w → Sat W (Kds (GVPe e) gl :: L) w
  | [], w, L, h => ⟨Pure True, fun p hp => (by cases hp), Sat.pure_mk trivial h.drop, fun w L h => Sat.kNil h.drop⟩
  | p :: gl, w, L, h => by
    have h1 := h.kCons
    obtain ⟨A, hA, h2, h3⟩ := own_rdB (cf := Rv.cells) (l := p.1.revs) Rv.len h1
    obtain ⟨E, hE, h4, h5⟩ := kds_rdB gl w (A :: L) (h2.perm (List.Perm.swap _ _ _))
    refine ⟨Sep [A, E], ?_, Sat.sep_mk (M := [A, E]) (h4.perm (List.Perm.swap _ _ _)), fun w L h => ?_⟩
    · intro q hq
      rcases List.mem_cons.1 hq with rfl | hq
      · exact hA.mono (fun w hw => Holds.sep2a hw)
      · exact (hE q hq).mono (fun w hw => Holds.sep2b hw)
    · have h6 : Sat W (A :: E :: L) w := h.sep
      have h7 := h5 w (A :: L) (h6.perm (List.Perm.swap _ _ _))
      exact (h3 w (Kds (GVPe e) gl :: L) (h7.perm (List.Perm.swap _ _ _))).kConsMk
/-- lives of one's own can be read, and stay one's own -/
theorem gens_rd {W w : World} {e e2 : TypeId} {vg : Value} {gl : List GV} {L : List HProp} (h : Sat W (Own e 4 vg gl.length (flatOf GV.cells gl) :: Kds (GVPe e2) gl :: L) w) : ∃ E : HProp, RdG E vg gl ∧ Sat W (E :: L) w ∧ ∀ w L, Sat W (E :: L) w → Sat W (Own e 4 vg gl.length (flatOf GV.cells gl) :: Kds (GVPe e2) gl :: L) w := by
  obtain ⟨A, hA, h2, h3⟩ := own_rdB GV.len h
  obtain ⟨E, hE, h4, h5⟩ := kds_rdB gl w (A :: L) (h2.perm (List.Perm.swap _ _ _))
  refine ⟨Sep [A, E], ⟨hA.mono (fun w hw => Holds.sep2a hw), fun p hp => (hE p hp).mono (fun w hw => Holds.sep2b hw)⟩, Sat.sep_mk (M := [A, E]) (h4.perm (List.Perm.swap _ _ _)), fun w L h => ?_⟩
  have h6 : Sat W (A :: E :: L) w := h.sep
  have h7 := h5 w (A :: L) (h6.perm (List.Perm.swap _ _ _))
  exact h3 w (Kds (GVPe e2) gl :: L) (h7.perm (List.Perm.swap _ _ _))
theorem gens_open {W w : World} {e e2 : TypeId} {vg : Value} {gl : List GV} {L : List HProp} (h : Sat W (Own e 4 vg gl.length (flatOf GV.cells gl) :: Kds (GVPe e2) gl :: L) w) : ∃ E : HProp, Sat W (Pure (RdG E vg gl ∧ ∀ w L, Sat W (E :: L) w → Sat W (Own e 4 vg gl.length (flatOf GV.cells gl) :: Kds (GVPe e2) gl :: L) w) :: E :: L) w := by
  obtain ⟨E, h1, h2, h3⟩ := gens_rd h
  exact ⟨E, Sat.pure_mk ⟨h1, h3⟩ h2⟩
theorem againE {W w : World} {e : TypeId} {v : Value} {gi : List GV} {c : List Value} {n : Nat} {p : GV} {L : List HProp} (h : Sat W (Own e 4 v n c :: GVPe 81 p :: Kds (GVPe 81) gi :: L) w) : Sat W (Own e 4 v n c :: Kds (GVPe 81) (gi ++ [p]) :: L) w := by
  have h1 : Sat W (GVPe 81 p :: Kds (GVPe 81) gi :: Own e 4 v n c :: L) w := h.perm ((List.Perm.swap _ _ _).trans (List.Perm.cons _ (List.Perm.swap _ _ _)))
  have h2 := Sat.kPerm (R := GVPe 81) (ms := gi ++ [p]) (by simpa using (List.perm_append_comm (l₁ := [p]) (l₂ := gi))) h1.kConsMk
  exact h2.perm (List.Perm.swap _ _ _)
set_option maxRecDepth 100000 in
set_option maxHeartbeats 2000000 in
theorem revin_spec (r : Rv) : Does Try.prog 63 [.agg #[.int .i64 (r.m), .int .i64 (r.s)]] [] (fun v L => v = rk r ∧ L = []) := by
  refine Does.enter 8 Try.func63 rfl rfl rfl fun W F => ?_
  show WPc _ _ _ _ _ [(0, .agg #[.int .i64 (r.m), .int .i64 (r.s)])] (F)
  refine WPc.seq ?_
  refine WPc.region ?_
  refine WP.eff rfl rfl rfl (Eff.box (C := [.int .i64 (r.m), .int .i64 (r.s)]) rfl rfl rfl) ?_
  rintro _ _ ⟨b1, rfl, rfl⟩
  refine WP.eff rfl rfl rfl (Eff.alloc rfl Ty.z81) ?_
  rintro _ _ ⟨b2, rfl, rfl⟩
  refine WP.nil ?_
  refine Out.next ?_
  refine WPc.seq ?_
  refine WPc.region ?_
  refine WP.val rfl rfl rfl (Val.fieldAddr (j := 0) rfl Ty.fo32_0 rfl rfl) ?_
  refine WP.val rfl rfl rfl (Val.load rfl Ty.sc2 rfl (fun w h => h.cell 1 rfl rfl)) ?_
  refine WP.val rfl rfl rfl (Val.fieldAddr (j := 1) rfl Ty.fo32_1 rfl rfl) ?_
  refine WP.val rfl rfl rfl (Val.load rfl Ty.sc2 rfl (fun w h => h.cell 1 rfl rfl)) ?_
  refine WP.val rfl rfl rfl (Val.mk (cs := [.int .i64 (r.m), .int .i64 (r.s)]) rfl rfl (fun _ => by kernel_rfl)) ?_
  refine WP.eff0 rfl rfl (Eff.storeAgg (cs := [.int .i64 (r.m), .int .i64 (r.s)]) (C' := [.int .i64 (r.m), .int .i64 (r.s)]) rfl Ty.ag81 rfl rfl rfl rfl (by simp) rfl) ?_
  rintro _ _ rfl
  refine WP.nil ?_
  refine Out.next ?_
  refine WPc.ret ?_
  refine Out.perm pl1 ?_
  refine Out.drop ?_
  exact Out.retRun (L' := []) (results_cell (cs := _) Try.results63 Ty.ag81 rfl rfl (fun w h => h.range 0 rfl rfl)) ⟨rfl, rfl⟩ (fun w h => h.drop)
set_option maxRecDepth 100000 in
set_option maxHeartbeats 1000000 in
theorem revsin_nil (A : HProp) (a : Option Addr) (c : Nat) : Does Try.prog 64 [.slice a 0 c] [A] (fun v L => L = [Own 81 2 v 0 (flatOf Rv.cells ([] : List Rv)), A]) := by
  refine Does.enter 20 Try.func64 rfl rfl rfl fun W F => ?_
  show WPc _ _ _ _ _ [(0, .slice a 0 c)] (A :: F)
  refine WPc.seq ?_
  refine WPc.region ?_
  refine WP.val rfl rfl rfl (Val.assign rfl rfl) ?_
  refine WP.nil ?_
  refine Out.next ?_
  refine WPc.seq ?_
  refine WPc.region ?_
  refine WP.val rfl rfl rfl (Val.assign rfl rfl) ?_
  refine WP.nil ?_
  refine Out.next ?_
  refine WPc.seq ?_
  refine WPc.seq ?_
  refine WPc.conv (fun w h => h.ownNil (e := 81) (k := 2)) ?_
  show WPc _ _ _ _ _ _ (Own 81 2 (.slice none 0 0) 0 ([]) :: A :: F)
  refine WPc.region ?_
  refine WP.val rfl rfl rfl (Val.assign rfl rfl) ?_
  refine WP.nil ?_
  refine Out.next ?_
  refine WPc.block ?_
  refine WPc.loop (ι := Nat × Value) (fun ⟨i, v⟩ => i ≤ 0) (fun ⟨i, v⟩ => [(0, .slice a 0 c), (3, v), (4, .int .i64 (((i : Nat) : Int)))]) (fun ⟨i, v⟩ => Own 81 2 v ((([] : List Rv).take i).length) (flatOf Rv.cells (([] : List Rv).take i)) :: A :: F) (fun ⟨i, v⟩ => 0 - i) (0, .slice none 0 0) (Nat.zero_le _) ((Sub.cons rfl (Sub.cons rfl (Sub.cons rfl Sub.nil)))) (fun _ h => h) ?_
  rintro ⟨i, v⟩ hi
  show WPc _ _ _ _ _ [(0, .slice a 0 c), (3, v), (4, .int .i64 (((i : Nat) : Int)))] (Own 81 2 v ((([] : List Rv).take i).length) (flatOf Rv.cells (([] : List Rv).take i)) :: A :: F)
  replace hi : i ≤ 0 := hi
  have htl : (([] : List Rv).take i).length ≤ i := by rw [List.length_take]; omega
  refine WPc.seq ?_
  refine WPc.seq ?_
  refine WPc.region ?_
  refine WP.val rfl rfl rfl (Val.move rfl rfl) ?_
  refine WP.val rfl rfl rfl (Val.move rfl rfl) ?_
  refine WP.val rfl rfl rfl (Val.len rfl Ty.sl40 rfl) ?_
  refine WP.val rfl rfl rfl (Val.lss rfl rfl rfl) ?_
  refine WP.nil ?_
  refine Out.next ?_
  refine WPc.ifP rfl (fun h1 => ?_) (fun h1 => ?_)
  · skip
    have h1 : (((i : Nat) : Int) < (0 : Int)) := h1
    exfalso; omega
  · skip
    have h1 : ¬ (((i : Nat) : Int) < (0 : Int)) := h1
    refine WPc.exit ?_
    refine Out.then_exit ?_
    refine Out.then_exit ?_
    refine Out.block_exit ?_
    refine Out.next ?_
    refine WPc.seq ?_
    refine WPc.region ?_
    refine WP.val rfl rfl rfl (Val.move rfl rfl) ?_
    refine WP.val rfl rfl rfl (Val.assign rfl rfl) ?_
    refine WP.nil ?_
    refine Out.next ?_
    refine WPc.ret ?_
    have hil : i = 0 := by omega
    exact Out.ret1 (L' := _) Try.results64 rfl rfl (fun w h => by rw [hil] at h; exact h)

set_option maxRecDepth 100000 in
set_option maxHeartbeats 1000000 in
theorem revsin_row (A : HProp) (l : List Rv) (hl : l.length ≤ 200000) (b0 o0 c0 : Nat) (hr : ∀ w, Holds A w → ∀ i x, l[i]? = some x → w.rangeAt b0 (o0 + i * 2) (Rv.cells x)) : Does Try.prog 64 [.slice (some ⟨b0, o0, none⟩) l.length c0] [A] (fun v L => L = [Own 81 2 v l.length (flatOf Rv.cells l), A]) := by
  refine Does.enter 20 Try.func64 rfl rfl rfl fun W F => ?_
  show WPc _ _ _ _ _ [(0, .slice (some ⟨b0, o0, none⟩) l.length c0)] (A :: F)
  refine WPc.seq ?_
  refine WPc.region ?_
  refine WP.val rfl rfl rfl (Val.assign rfl rfl) ?_
  refine WP.nil ?_
  refine Out.next ?_
  refine WPc.seq ?_
  refine WPc.region ?_
  refine WP.val rfl rfl rfl (Val.assign rfl rfl) ?_
  refine WP.nil ?_
  refine Out.next ?_
  refine WPc.seq ?_
  refine WPc.seq ?_
  refine WPc.conv (fun w h => h.ownNil (e := 81) (k := 2)) ?_
  show WPc _ _ _ _ _ _ (Own 81 2 (.slice none 0 0) 0 ([]) :: A :: F)
  refine WPc.region ?_
  refine WP.val rfl rfl rfl (Val.assign rfl rfl) ?_
  refine WP.nil ?_
  refine Out.next ?_
  refine WPc.block ?_
  refine WPc.loop (ι := Nat × Value) (fun ⟨i, v⟩ => i ≤ l.length) (fun ⟨i, v⟩ => [(0, .slice (some ⟨b0, o0, none⟩) l.length c0), (3, v), (4, .int .i64 (((i : Nat) : Int)))]) (fun ⟨i, v⟩ => Own 81 2 v ((l.take i).length) (flatOf Rv.cells (l.take i)) :: A :: F) (fun ⟨i, v⟩ => l.length - i) (0, .slice none 0 0) (Nat.zero_le _) ((Sub.cons rfl (Sub.cons rfl (Sub.cons rfl Sub.nil)))) (fun _ h => h) ?_
  rintro ⟨i, v⟩ hi
  show WPc _ _ _ _ _ [(0, .slice (some ⟨b0, o0, none⟩) l.length c0), (3, v), (4, .int .i64 (((i : Nat) : Int)))] (Own 81 2 v ((l.take i).length) (flatOf Rv.cells (l.take i)) :: A :: F)
  replace hi : i ≤ l.length := hi
  have htl : (l.take i).length ≤ i := by rw [List.length_take]; omega
  refine WPc.seq ?_
  refine WPc.seq ?_
  refine WPc.region ?_
  refine WP.val rfl rfl rfl (Val.move rfl rfl) ?_
  refine WP.val rfl rfl rfl (Val.move rfl rfl) ?_
  refine WP.val rfl rfl rfl (Val.len rfl Ty.sl40 rfl) ?_
  refine WP.val rfl rfl rfl (Val.lss rfl rfl rfl) ?_
  refine WP.nil ?_
  refine Out.next ?_
  refine WPc.ifP rfl (fun h1 => ?_) (fun h1 => ?_)
  · skip
    have h1 : (((i : Nat) : Int) < ((l.length : Nat) : Int)) := h1
    refine WPc.skip ?_
    refine Out.next ?_
    refine WPc.seq ?_
    refine WPc.block ?_
    have hlt : i < l.length := by omega
    obtain ⟨x, hx⟩ : ∃ x, l[i]? = some x := ⟨_, List.getElem?_eq_getElem hlt⟩
    refine WPc.region ?_
    refine WP.val rfl rfl rfl (Val.move rfl rfl) ?_
    refine WP.val rfl rfl rfl (Val.move rfl rfl) ?_
    refine WP.val rfl rfl rfl (Val.move rfl rfl) ?_
    refine WP.val rfl rfl rfl (Val.indexAddr (j := i) (q := o0 + i * 2) rfl Ty.sl40 rfl rfl (by omega) (by omega) (by omega)) ?_
    refine WP.val rfl rfl rfl (Val.loadAgg (cs := (Rv.cells x)) rfl Ty.ag32 rfl (by rfl) (fun w h => hr w (h.at 1 rfl) i x hx)) ?_
    refine WP.eff rfl rfl rfl (Eff.call rfl rfl Try.call63 (revin_spec ⟨x.m, x.s⟩)) ?_
    rintro _ _ ⟨_, ⟨rfl, rfl⟩, rfl⟩
    show WP _ _ _ _ _ _ _ (Own 81 2 v ((l.take i).length) (flatOf Rv.cells (l.take i)) :: A :: F)
    refine WP.eff rfl rfl rfl (Eff.mkSlice (C := [.int .i64 (x.m), .int .i64 (x.s)]) rfl Ty.sl132 rfl (fun _ => by kernel_rfl)) ?_
    rintro _ _ ⟨b1, rfl, rfl⟩
    refine WP.perm pl1 ?_
    refine WP.eff rfl rfl rfl (Eff.append (m := 1) (n0 := (l.take i).length) (news := [.int .i64 (x.m), .int .i64 (x.s)]) rfl Ty.sl132 Ty.z81 rfl rfl rfl (.slice Ty.sl132 rfl rfl (fun w h => cells_range (h.range 1 rfl rfl))) (by omega) (by omega)) ?_
    rintro v2 _ ⟨onev2, rfl⟩
    refine WP.val rfl rfl rfl (Val.assign rfl rfl) ?_
    refine WP.nil ?_
    refine Out.block ?_
    refine Out.next ?_
    refine WPc.region ?_
    refine WP.val rfl rfl rfl (Val.move rfl rfl) ?_
    refine WP.val rfl rfl rfl (Val.add (z := ((i + 1 : Nat) : Int)) rfl rfl rfl ((w64 (by omega) (by omega)).trans (by omega))) ?_
    refine WP.val rfl rfl rfl (Val.assign rfl rfl) ?_
    refine WP.nil ?_
    refine Out.perm pl1 ?_
    refine Out.drop ?_
    refine Out.again (i + 1, v2) ?_ ?_ ?_ ?_
    · exact (by show i + 1 ≤ l.length; omega)
    · (dsimp only; omega)
    · exact (Sub.cons rfl (Sub.cons rfl (Sub.cons rfl Sub.nil)))
    · exact (fun w h => by dsimp only; rw [take_more hx, flatOf_append, flatOf_one, List.length_append]; exact h)
  · skip
    have h1 : ¬ (((i : Nat) : Int) < ((l.length : Nat) : Int)) := h1
    refine WPc.exit ?_
    refine Out.then_exit ?_
    refine Out.then_exit ?_
    refine Out.block_exit ?_
    refine Out.next ?_
    refine WPc.seq ?_
    refine WPc.region ?_
    refine WP.val rfl rfl rfl (Val.move rfl rfl) ?_
    refine WP.val rfl rfl rfl (Val.assign rfl rfl) ?_
    refine WP.nil ?_
    refine Out.next ?_
    refine WPc.ret ?_
    have hil : i = l.length := by omega
    exact Out.ret1 (L' := _) Try.results64 rfl rfl (fun w h => by rw [hil, List.take_length] at h; exact h)

theorem revsin_spec (A : HProp) (l : List Rv) (hl : l.length ≤ 200000) (va : Value) (hva : Rd A 2 Rv.cells va l) : Does Try.prog 64 [va] [A] (fun v L => L = [Own 81 2 v l.length (flatOf Rv.cells l), A]) := by
  rcases hva with ⟨b0, o0, c0, rfl, hr⟩ | ⟨rfl, a, c, rfl⟩
  · exact revsin_row A l hl b0 o0 c0 hr
  · exact revsin_nil A a c
set_option maxRecDepth 100000 in
set_option maxHeartbeats 1000000 in
theorem dumpin_nil (A : HProp) (md : Rv) (a : Option Addr) (c : Nat) : Does Try.prog 32 [.agg #[.int .i64 (md.m), .int .i64 (md.s), .slice a 0 c]] [A] (fun v L => ∃ (v2 : Value) (g2 : List GV), v = .agg #[.int .i64 md.m, .int .i64 md.s, v2] ∧ g2.map (·.1) = ([] : List GV).map (·.1) ∧ L = [Own 135 4 v2 g2.length (flatOf GV.cells g2), Kds (GVPe 81) g2, A]) := by
  refine Does.enter 43 Try.func32 rfl rfl rfl fun W F => ?_
  show WPc _ _ _ _ _ [(0, .agg #[.int .i64 (md.m), .int .i64 (md.s), .slice a 0 c])] (A :: F)
  refine WPc.seq ?_
  refine WPc.region ?_
  refine WP.eff rfl rfl rfl (Eff.box (C := [.int .i64 (md.m), .int .i64 (md.s), .slice a 0 c]) rfl rfl rfl) ?_
  rintro _ _ ⟨b1, rfl, rfl⟩
  refine WP.eff rfl rfl rfl (Eff.alloc rfl Ty.z84) ?_
  rintro _ _ ⟨b2, rfl, rfl⟩
  refine WP.nil ?_
  refine Out.next ?_
  refine WPc.seq ?_
  refine WPc.region ?_
  refine WP.val rfl rfl rfl (Val.fieldAddr (j := 0) rfl Ty.fo35_0 rfl rfl) ?_
  refine WP.val rfl rfl rfl (Val.loadAgg (cs := [.int .i64 (md.m), .int .i64 (md.s)]) rfl Ty.ag32 rfl rfl (fun w h => h.range 1 rfl rfl)) ?_
  refine WP.eff rfl rfl rfl (Eff.call rfl rfl Try.call63 (revin_spec ⟨md.m, md.s⟩)) ?_
  rintro _ _ ⟨_, ⟨rfl, rfl⟩, rfl⟩
  show WP _ _ _ _ _ _ _ (Blk b2 [.int .i64 0, .int .i64 0, .slice none 0 0] 84 :: Blk b1 [.int .i64 (md.m), .int .i64 (md.s), .slice a 0 c] 35 :: A :: F)
  refine WP.val rfl rfl rfl (Val.mk (cs := [.int .i64 (md.m), .int .i64 (md.s), .slice none 0 0]) rfl rfl (fun _ => by kernel_rfl)) ?_
  refine WP.eff rfl rfl rfl (Eff.alloc rfl Ty.z84) ?_
  rintro _ _ ⟨b3, rfl, rfl⟩
  refine WP.eff0 rfl rfl (Eff.storeAgg (cs := [.int .i64 (md.m), .int .i64 (md.s), .slice none 0 0]) (C' := [.int .i64 (md.m), .int .i64 (md.s), .slice none 0 0]) rfl Ty.ag84 rfl rfl rfl rfl (by simp) rfl) ?_
  rintro _ _ rfl
  refine WP.nil ?_
  refine Out.next ?_
  refine WPc.seq ?_
  refine WPc.seq ?_
  refine WPc.conv (fun w h => Sat.kNil (R := GVPe 81) h) ?_
  refine WPc.conv (fun w h => h.ownNil (e := 135) (k := 4)) ?_
  show WPc _ _ _ _ _ _ (Own 135 4 (.slice none 0 0) 0 ([]) :: Kds (GVPe 81) [] :: Blk b3 [.int .i64 (md.m), .int .i64 (md.s), .slice none 0 0] 84 :: Blk b2 [.int .i64 0, .int .i64 0, .slice none 0 0] 84 :: Blk b1 [.int .i64 (md.m), .int .i64 (md.s), .slice a 0 c] 35 :: A :: F)
  refine WPc.region ?_
  refine WP.val rfl rfl rfl (Val.assign rfl rfl) ?_
  refine WP.nil ?_
  refine Out.next ?_
  refine WPc.block ?_
  refine WPc.perm pl5 ?_
  refine WPc.perm pl4 ?_
  refine WPc.perm pl5 ?_
  refine WPc.perm pl5 ?_
  refine WPc.perm pl5 ?_
  refine WPc.perm pl5 ?_
  refine WPc.loop (ι := Nat × Value × List GV) (fun ⟨i, v3, g2⟩ => i ≤ 0 ∧ g2.map (·.1) = (([] : List GV).take i).map (·.1)) (fun ⟨i, v3, g2⟩ => [(1, .pointer (some ⟨b1, 0, none⟩)), (2, .pointer (some ⟨b2, 0, none⟩)), (3, .pointer (some ⟨b3, 0, none⟩)), (4, .int .i64 (((i : Nat) : Int)))]) (fun ⟨i, v3, g2⟩ => Own 135 4 v3 g2.length (flatOf GV.cells g2) :: Kds (GVPe 81) g2 :: Blk b3 [.int .i64 (md.m), .int .i64 (md.s), v3] 84 :: Blk b1 [.int .i64 (md.m), .int .i64 (md.s), .slice a 0 c] 35 :: Blk b2 [.int .i64 0, .int .i64 0, .slice none 0 0] 84 :: A :: F) (fun ⟨i, v3, g2⟩ => 0 - i) (0, .slice none 0 0, []) ⟨Nat.zero_le _, rfl⟩ ((Sub.cons rfl (Sub.cons rfl (Sub.cons rfl (Sub.cons rfl Sub.nil))))) (fun _ h => h) ?_
  rintro ⟨i, v3, g2⟩ ⟨hi, hg2⟩
  show WPc _ _ _ _ _ [(1, .pointer (some ⟨b1, 0, none⟩)), (2, .pointer (some ⟨b2, 0, none⟩)), (3, .pointer (some ⟨b3, 0, none⟩)), (4, .int .i64 (((i : Nat) : Int)))] (Own 135 4 v3 g2.length (flatOf GV.cells g2) :: Kds (GVPe 81) g2 :: Blk b3 [.int .i64 (md.m), .int .i64 (md.s), v3] 84 :: Blk b1 [.int .i64 (md.m), .int .i64 (md.s), .slice a 0 c] 35 :: Blk b2 [.int .i64 0, .int .i64 0, .slice none 0 0] 84 :: A :: F)
  replace hi : i ≤ 0 := hi
  replace hg2 : g2.map (·.1) = (([] : List GV).take i).map (·.1) := hg2
  have hgn := congrArg List.length hg2
  rw [List.length_map, List.length_map, List.length_take] at hgn
  refine WPc.seq ?_
  refine WPc.seq ?_
  refine WPc.region ?_
  refine WP.val rfl rfl rfl (Val.move rfl rfl) ?_
  refine WP.val rfl rfl rfl (Val.fieldAddr (j := 2) rfl Ty.fo35_1 rfl rfl) ?_
  refine WP.val rfl rfl rfl (Val.load rfl Ty.sc33 rfl (fun w h => h.cell 3 rfl rfl)) ?_
  refine WP.val rfl rfl rfl (Val.len rfl Ty.sl33 rfl) ?_
  refine WP.val rfl rfl rfl (Val.lss rfl rfl rfl) ?_
  refine WP.nil ?_
  refine Out.next ?_
  refine WPc.ifP rfl (fun h1 => ?_) (fun h1 => ?_)
  · skip
    have h1 : (((i : Nat) : Int) < (0 : Int)) := h1
    exfalso; omega
  · skip
    have h1 : ¬ (((i : Nat) : Int) < (0 : Int)) := h1
    refine WPc.exit ?_
    refine Out.then_exit ?_
    refine Out.then_exit ?_
    refine Out.block_exit ?_
    refine Out.next ?_
    refine WPc.seq ?_
    refine WPc.fact (fun w h => own_oneCell h) (fun on3 => ?_)
    refine WPc.region ?_
    refine WP.val rfl rfl rfl (Val.loadAgg (cs := [.int .i64 (md.m), .int .i64 (md.s), v3]) rfl Ty.ag84 rfl rfl (fun w h => h.range 2 rfl rfl)) ?_
    refine WP.perm pl4 ?_
    refine WP.eff0 rfl rfl (Eff.storeAgg (cs := [.int .i64 (md.m), .int .i64 (md.s), v3]) (C' := [.int .i64 (md.m), .int .i64 (md.s), v3]) rfl Ty.ag84 rfl rfl rfl (by simp only [List.all_cons, List.all_nil, Bool.and_true, oc_int, oc_str, oc_bool, oc_ptr, oc_slice, oc_iface, oc_map, on3]) (by simp) rfl) ?_
    rintro _ _ rfl
    refine WP.nil ?_
    refine Out.next ?_
    refine WPc.ret ?_
    have hil : i = 0 := by omega
    rw [hil] at hg2
    refine Out.perm pl3 ?_
    refine Out.drop ?_
    refine Out.perm pl3 ?_
    refine Out.drop ?_
    exact Out.retRun (L' := _) (results_cell (cs := _) Try.results32 Ty.ag84 rfl rfl (fun w h => h.range 0 rfl rfl)) ⟨v3, g2, rfl, hg2, rfl⟩ (fun w h => h.drop)

set_option maxRecDepth 100000 in
set_option maxHeartbeats 1000000 in
theorem dumpin_row (A : HProp) (md : Rv) (l : List GV) (hsm : Small (l.map (·.1))) (hin : ∀ p ∈ l, Rd A 2 Rv.cells p.2 p.1.revs) (b0 o0 c0 : Nat) (hr : ∀ w, Holds A w → ∀ i x, l[i]? = some x → w.rangeAt b0 (o0 + i * 4) (GV.cells x)) : Does Try.prog 32 [.agg #[.int .i64 (md.m), .int .i64 (md.s), .slice (some ⟨b0, o0, none⟩) l.length c0]] [A] (fun v L => ∃ (v2 : Value) (g2 : List GV), v = .agg #[.int .i64 md.m, .int .i64 md.s, v2] ∧ g2.map (·.1) = l.map (·.1) ∧ L = [Own 135 4 v2 g2.length (flatOf GV.cells g2), Kds (GVPe 81) g2, A]) := by
  refine Does.enter 43 Try.func32 rfl rfl rfl fun W F => ?_
  show WPc _ _ _ _ _ [(0, .agg #[.int .i64 (md.m), .int .i64 (md.s), .slice (some ⟨b0, o0, none⟩) l.length c0])] (A :: F)
  refine WPc.seq ?_
  refine WPc.region ?_
  refine WP.eff rfl rfl rfl (Eff.box (C := [.int .i64 (md.m), .int .i64 (md.s), .slice (some ⟨b0, o0, none⟩) l.length c0]) rfl rfl rfl) ?_
  rintro _ _ ⟨b1, rfl, rfl⟩
  refine WP.eff rfl rfl rfl (Eff.alloc rfl Ty.z84) ?_
  rintro _ _ ⟨b2, rfl, rfl⟩
  refine WP.nil ?_
  refine Out.next ?_
  refine WPc.seq ?_
  refine WPc.region ?_
  refine WP.val rfl rfl rfl (Val.fieldAddr (j := 0) rfl Ty.fo35_0 rfl rfl) ?_
  refine WP.val rfl rfl rfl (Val.loadAgg (cs := [.int .i64 (md.m), .int .i64 (md.s)]) rfl Ty.ag32 rfl rfl (fun w h => h.range 1 rfl rfl)) ?_
  refine WP.eff rfl rfl rfl (Eff.call rfl rfl Try.call63 (revin_spec ⟨md.m, md.s⟩)) ?_
  rintro _ _ ⟨_, ⟨rfl, rfl⟩, rfl⟩
  show WP _ _ _ _ _ _ _ (Blk b2 [.int .i64 0, .int .i64 0, .slice none 0 0] 84 :: Blk b1 [.int .i64 (md.m), .int .i64 (md.s), .slice (some ⟨b0, o0, none⟩) l.length c0] 35 :: A :: F)
  refine WP.val rfl rfl rfl (Val.mk (cs := [.int .i64 (md.m), .int .i64 (md.s), .slice none 0 0]) rfl rfl (fun _ => by kernel_rfl)) ?_
  refine WP.eff rfl rfl rfl (Eff.alloc rfl Ty.z84) ?_
  rintro _ _ ⟨b3, rfl, rfl⟩
  refine WP.eff0 rfl rfl (Eff.storeAgg (cs := [.int .i64 (md.m), .int .i64 (md.s), .slice none 0 0]) (C' := [.int .i64 (md.m), .int .i64 (md.s), .slice none 0 0]) rfl Ty.ag84 rfl rfl rfl rfl (by simp) rfl) ?_
  rintro _ _ rfl
  refine WP.nil ?_
  refine Out.next ?_
  refine WPc.seq ?_
  refine WPc.seq ?_
  refine WPc.conv (fun w h => Sat.kNil (R := GVPe 81) h) ?_
  refine WPc.conv (fun w h => h.ownNil (e := 135) (k := 4)) ?_
  show WPc _ _ _ _ _ _ (Own 135 4 (.slice none 0 0) 0 ([]) :: Kds (GVPe 81) [] :: Blk b3 [.int .i64 (md.m), .int .i64 (md.s), .slice none 0 0] 84 :: Blk b2 [.int .i64 0, .int .i64 0, .slice none 0 0] 84 :: Blk b1 [.int .i64 (md.m), .int .i64 (md.s), .slice (some ⟨b0, o0, none⟩) l.length c0] 35 :: A :: F)
  refine WPc.region ?_
  refine WP.val rfl rfl rfl (Val.assign rfl rfl) ?_
  refine WP.nil ?_
  refine Out.next ?_
  refine WPc.block ?_
  refine WPc.perm pl5 ?_
  refine WPc.perm pl4 ?_
  refine WPc.perm pl5 ?_
  refine WPc.perm pl5 ?_
  refine WPc.perm pl5 ?_
  refine WPc.perm pl5 ?_
  refine WPc.loop (ι := Nat × Value × List GV) (fun ⟨i, v3, g2⟩ => i ≤ l.length ∧ g2.map (·.1) = (l.take i).map (·.1)) (fun ⟨i, v3, g2⟩ => [(1, .pointer (some ⟨b1, 0, none⟩)), (2, .pointer (some ⟨b2, 0, none⟩)), (3, .pointer (some ⟨b3, 0, none⟩)), (4, .int .i64 (((i : Nat) : Int)))]) (fun ⟨i, v3, g2⟩ => Own 135 4 v3 g2.length (flatOf GV.cells g2) :: Kds (GVPe 81) g2 :: Blk b3 [.int .i64 (md.m), .int .i64 (md.s), v3] 84 :: Blk b1 [.int .i64 (md.m), .int .i64 (md.s), .slice (some ⟨b0, o0, none⟩) l.length c0] 35 :: Blk b2 [.int .i64 0, .int .i64 0, .slice none 0 0] 84 :: A :: F) (fun ⟨i, v3, g2⟩ => l.length - i) (0, .slice none 0 0, []) ⟨Nat.zero_le _, rfl⟩ ((Sub.cons rfl (Sub.cons rfl (Sub.cons rfl (Sub.cons rfl Sub.nil))))) (fun _ h => h) ?_
  rintro ⟨i, v3, g2⟩ ⟨hi, hg2⟩
  show WPc _ _ _ _ _ [(1, .pointer (some ⟨b1, 0, none⟩)), (2, .pointer (some ⟨b2, 0, none⟩)), (3, .pointer (some ⟨b3, 0, none⟩)), (4, .int .i64 (((i : Nat) : Int)))] (Own 135 4 v3 g2.length (flatOf GV.cells g2) :: Kds (GVPe 81) g2 :: Blk b3 [.int .i64 (md.m), .int .i64 (md.s), v3] 84 :: Blk b1 [.int .i64 (md.m), .int .i64 (md.s), .slice (some ⟨b0, o0, none⟩) l.length c0] 35 :: Blk b2 [.int .i64 0, .int .i64 0, .slice none 0 0] 84 :: A :: F)
  replace hi : i ≤ l.length := hi
  replace hg2 : g2.map (·.1) = (l.take i).map (·.1) := hg2
  have hgn := congrArg List.length hg2
  rw [List.length_map, List.length_map, List.length_take] at hgn
  have hlen := hsm.len
  refine WPc.seq ?_
  refine WPc.seq ?_
  refine WPc.region ?_
  refine WP.val rfl rfl rfl (Val.move rfl rfl) ?_
  refine WP.val rfl rfl rfl (Val.fieldAddr (j := 2) rfl Ty.fo35_1 rfl rfl) ?_
  refine WP.val rfl rfl rfl (Val.load rfl Ty.sc33 rfl (fun w h => h.cell 3 rfl rfl)) ?_
  refine WP.val rfl rfl rfl (Val.len rfl Ty.sl33 rfl) ?_
  refine WP.val rfl rfl rfl (Val.lss rfl rfl rfl) ?_
  refine WP.nil ?_
  refine Out.next ?_
  refine WPc.ifP rfl (fun h1 => ?_) (fun h1 => ?_)
  · skip
    have h1 : (((i : Nat) : Int) < ((l.length : Nat) : Int)) := h1
    refine WPc.skip ?_
    refine Out.next ?_
    refine WPc.seq ?_
    refine WPc.block ?_
    have hlt : i < l.length := by omega
    obtain ⟨x, hx⟩ : ∃ x, l[i]? = some x := ⟨_, List.getElem?_eq_getElem hlt⟩
    have hxm : x ∈ l := List.mem_iff_getElem?.2 ⟨_, hx⟩
    refine WPD.start (Sat W [Blk b3 [.int .i64 (md.m), .int .i64 (md.s), v3] 84, Blk b1 [.int .i64 (md.m), .int .i64 (md.s), .slice (some ⟨b0, o0, none⟩) l.length c0] 35, A]) Ty.mixed ?_
    refine WPD.takeM 0 rfl rfl rfl rfl (by kernel_rfl) (by kernel_rfl) (by kernel_rfl) (by kernel_rfl) (fun _ _ _ h => h) (fun w h => ((((h.perm pl5).perm pl4).perm pl4)).dropEnd (L := [_, _, _])) (Val.fieldAddr (j := 2) rfl Ty.fo84_1 rfl rfl) ?_
    refine WPD.take 1 rfl rfl rfl rfl (by kernel_rfl) (by kernel_rfl) (by kernel_rfl) (by kernel_rfl) (fun _ _ _ h => h) (by kernel_rfl) (fun w h => ((((h.perm pl5).perm pl4).perm pl4)).dropEnd (L := [_, _, _])) (Val.load rfl Ty.sc82 rfl (fun w h => h.cell 0 rfl rfl)) ?_
    refine WPD.takeM 2 rfl rfl rfl rfl (by kernel_rfl) (by kernel_rfl) (by kernel_rfl) (by kernel_rfl) (fun _ _ _ h => h) (fun w h => ((((h.perm pl5).perm pl4).perm pl4)).dropEnd (L := [_, _, _])) (Val.fieldAddr (j := 2) rfl Ty.fo35_1 rfl rfl) ?_
    refine WPD.take 3 rfl rfl rfl rfl (by kernel_rfl) (by kernel_rfl) (by kernel_rfl) (by kernel_rfl) (fun _ _ _ h => h) (by kernel_rfl) (fun w h => ((((h.perm pl5).perm pl4).perm pl4)).dropEnd (L := [_, _, _])) (Val.load rfl Ty.sc33 rfl (fun w h => h.cell 1 rfl rfl)) ?_
    refine WPD.takeM 4 rfl rfl rfl rfl (by kernel_rfl) (by kernel_rfl) (by kernel_rfl) (by kernel_rfl) (fun _ _ _ h => h) (fun w h => ((((h.perm pl5).perm pl4).perm pl4)).dropEnd (L := [_, _, _])) (Val.move rfl rfl) ?_
    refine WPD.takeM 5 rfl rfl rfl rfl (by kernel_rfl) (by kernel_rfl) (by kernel_rfl) (by kernel_rfl) (fun _ _ _ h => h) (fun w h => ((((h.perm pl5).perm pl4).perm pl4)).dropEnd (L := [_, _, _])) (Val.indexAddr (j := i) (q := o0 + i * 4) rfl Ty.sl33 rfl rfl (by omega) (by omega) (by omega)) ?_
    refine WPD.takeM 6 rfl rfl rfl rfl (by kernel_rfl) (by kernel_rfl) (by kernel_rfl) (by kernel_rfl) (fun _ _ _ h => h) (fun w h => ((((h.perm pl5).perm pl4).perm pl4)).dropEnd (L := [_, _, _])) (Val.fieldAddr (j := o0 + i * 4) rfl Ty.fo53_0 rfl rfl) ?_
    refine WPD.take 7 rfl rfl rfl rfl (by kernel_rfl) (by kernel_rfl) (by kernel_rfl) (by kernel_rfl) (fun _ _ _ h => h) (by kernel_rfl) (fun w h => ((((h.perm pl5).perm pl4).perm pl4)).dropEnd (L := [_, _, _])) (Val.load (v := .int .i64 (x.1.v)) rfl Ty.sc2 rfl (fun w h => hr w (h.at 2 rfl) i x hx 0 _ rfl)) ?_
    refine WPD.takeM 8 rfl rfl rfl rfl (by kernel_rfl) (by kernel_rfl) (by kernel_rfl) (by kernel_rfl) (fun _ _ _ h => h) (fun w h => ((((h.perm pl5).perm pl4).perm pl4)).dropEnd (L := [_, _, _])) (Val.fieldAddr (j := 2) rfl Ty.fo35_1 rfl rfl) ?_
    refine WPD.take 9 rfl rfl rfl rfl (by kernel_rfl) (by kernel_rfl) (by kernel_rfl) (by kernel_rfl) (fun _ _ _ h => h) (by kernel_rfl) (fun w h => ((((h.perm pl5).perm pl4).perm pl4)).dropEnd (L := [_, _, _])) (Val.load rfl Ty.sc33 rfl (fun w h => h.cell 1 rfl rfl)) ?_
    refine WPD.takeM 10 rfl rfl rfl rfl (by kernel_rfl) (by kernel_rfl) (by kernel_rfl) (by kernel_rfl) (fun _ _ _ h => h) (fun w h => ((((h.perm pl5).perm pl4).perm pl4)).dropEnd (L := [_, _, _])) (Val.move rfl rfl) ?_
    refine WPD.takeM 11 rfl rfl rfl rfl (by kernel_rfl) (by kernel_rfl) (by kernel_rfl) (by kernel_rfl) (fun _ _ _ h => h) (fun w h => ((((h.perm pl5).perm pl4).perm pl4)).dropEnd (L := [_, _, _])) (Val.indexAddr (j := i) (q := o0 + i * 4) rfl Ty.sl33 rfl rfl (by omega) (by omega) (by omega)) ?_
    refine WPD.takeM 12 rfl rfl rfl rfl (by kernel_rfl) (by kernel_rfl) (by kernel_rfl) (by kernel_rfl) (fun _ _ _ h => h) (fun w h => ((((h.perm pl5).perm pl4).perm pl4)).dropEnd (L := [_, _, _])) (Val.fieldAddr (j := o0 + i * 4 + 1) rfl Ty.fo53_1 rfl rfl) ?_
    refine WPD.take 13 rfl rfl rfl rfl (by kernel_rfl) (by kernel_rfl) (by kernel_rfl) (by kernel_rfl) (fun _ _ _ h => h) (by kernel_rfl) (fun w h => ((((h.perm pl5).perm pl4).perm pl4)).dropEnd (L := [_, _, _])) (Val.loadAgg (cs := [.int .i64 (x.1.c.m), .int .i64 (x.1.c.s)]) rfl Ty.ag32 rfl (by rfl) (fun w h => (fun j v hj => (by have h9 := hr w (h.at 2 rfl) i x hx (1 + j) v (by match j, hj with | 0, hj => exact hj | 1, hj => exact hj | j + 2, hj => simp at hj); rw [← Nat.add_assoc] at h9; exact h9)))) ?_
    refine WPD.takeM 15 rfl rfl rfl rfl (by kernel_rfl) (by kernel_rfl) (by kernel_rfl) (by kernel_rfl) (fun _ _ _ h => h) (fun w h => ((((h.perm pl5).perm pl4).perm pl4)).dropEnd (L := [_, _, _])) (Val.fieldAddr (j := 2) rfl Ty.fo35_1 rfl rfl) ?_
    refine WPD.take 16 rfl rfl rfl rfl (by kernel_rfl) (by kernel_rfl) (by kernel_rfl) (by kernel_rfl) (fun _ _ _ h => h) (by kernel_rfl) (fun w h => ((((h.perm pl5).perm pl4).perm pl4)).dropEnd (L := [_, _, _])) (Val.load rfl Ty.sc33 rfl (fun w h => h.cell 1 rfl rfl)) ?_
    refine WPD.takeM 17 rfl rfl rfl rfl (by kernel_rfl) (by kernel_rfl) (by kernel_rfl) (by kernel_rfl) (fun _ _ _ h => h) (fun w h => ((((h.perm pl5).perm pl4).perm pl4)).dropEnd (L := [_, _, _])) (Val.move rfl rfl) ?_
    refine WPD.takeM 18 rfl rfl rfl rfl (by kernel_rfl) (by kernel_rfl) (by kernel_rfl) (by kernel_rfl) (fun _ _ _ h => h) (fun w h => ((((h.perm pl5).perm pl4).perm pl4)).dropEnd (L := [_, _, _])) (Val.indexAddr (j := i) (q := o0 + i * 4) rfl Ty.sl33 rfl rfl (by omega) (by omega) (by omega)) ?_
    refine WPD.takeM 19 rfl rfl rfl rfl (by kernel_rfl) (by kernel_rfl) (by kernel_rfl) (by kernel_rfl) (fun _ _ _ h => h) (fun w h => ((((h.perm pl5).perm pl4).perm pl4)).dropEnd (L := [_, _, _])) (Val.fieldAddr (j := o0 + i * 4 + 3) rfl Ty.fo53_2 rfl rfl) ?_
    refine WPD.take 20 rfl rfl rfl rfl (by kernel_rfl) (by kernel_rfl) (by kernel_rfl) (by kernel_rfl) (fun _ _ _ h => h) (by kernel_rfl) (fun w h => ((((h.perm pl5).perm pl4).perm pl4)).dropEnd (L := [_, _, _])) (Val.load (v := x.2) rfl Ty.sc40 rfl (fun w h => hr w (h.at 2 rfl) i x hx 3 _ rfl)) ?_
    refine WPD.step 14 (by kernel_rfl) rfl rfl rfl rfl (Eff.call rfl rfl Try.call63 (revin_spec ⟨x.1.c.m, x.1.c.s⟩)) ?_
    rintro _ _ ⟨_, ⟨rfl, rfl⟩, rfl⟩
    refine ⟨(fun w h => ((((h.perm pl5).perm pl4).perm pl4)).dropEnd (L := [_, _, _])), ?_⟩
    show WPD _ _ _ _ _ _ _ _ _ (Own 135 4 v3 g2.length (flatOf GV.cells g2) :: Kds (GVPe 81) g2 :: Blk b3 [.int .i64 (md.m), .int .i64 (md.s), v3] 84 :: Blk b1 [.int .i64 (md.m), .int .i64 (md.s), .slice (some ⟨b0, o0, none⟩) l.length c0] 35 :: Blk b2 [.int .i64 0, .int .i64 0, .slice none 0 0] 84 :: A :: F)
    refine WPD.perm pl5 ?_
    refine WPD.step 21 (by kernel_rfl) rfl rfl rfl rfl (Eff.call rfl rfl Try.call64 (revsin_spec A x.1.revs (hsm.inn hxm) x.2 (hin x hxm))) ?_
    rintro vr _ ⟨_, rfl, rfl⟩
    refine ⟨(fun w h => ((((h.perm pl1).perm pl5).perm pl5)).dropEnd (L := [_, _, _])), ?_⟩
    show WPD _ _ _ _ _ _ _ _ _ (Own 81 2 vr x.1.revs.length (flatOf Rv.cells x.1.revs) :: A :: Own 135 4 v3 g2.length (flatOf GV.cells g2) :: Kds (GVPe 81) g2 :: Blk b3 [.int .i64 (md.m), .int .i64 (md.s), v3] 84 :: Blk b1 [.int .i64 (md.m), .int .i64 (md.s), .slice (some ⟨b0, o0, none⟩) l.length c0] 35 :: Blk b2 [.int .i64 0, .int .i64 0, .slice none 0 0] 84 :: F)
    refine WPD.fact (fun w h => own_slice h) (fun hsl4 => ?_)
    obtain ⟨a4, k4, rfl⟩ := hsl4
    show WPD _ _ _ _ _ _ _ _ _ (Own 81 2 (.slice a4 x.1.revs.length k4) x.1.revs.length (flatOf Rv.cells x.1.revs) :: A :: Own 135 4 v3 g2.length (flatOf GV.cells g2) :: Kds (GVPe 81) g2 :: Blk b3 [.int .i64 (md.m), .int .i64 (md.s), v3] 84 :: Blk b1 [.int .i64 (md.m), .int .i64 (md.s), .slice (some ⟨b0, o0, none⟩) l.length c0] 35 :: Blk b2 [.int .i64 0, .int .i64 0, .slice none 0 0] 84 :: F)
    refine WPD.takeM 22 rfl rfl rfl rfl (by kernel_rfl) (by kernel_rfl) (by kernel_rfl) (by kernel_rfl) (fun _ _ _ h => h) (fun w h => ((((h.perm pl1).perm pl5).perm pl5)).dropEnd (L := [_, _, _])) (Val.mk (cs := [.int .i64 (x.1.v), .int .i64 (x.1.c.m), .int .i64 (x.1.c.s), .slice a4 x.1.revs.length k4]) rfl rfl (fun _ => by kernel_rfl)) ?_
    refine WPD.step 23 (by kernel_rfl) rfl rfl rfl rfl (Eff.mkSlice (C := [.int .i64 (x.1.v), .int .i64 (x.1.c.m), .int .i64 (x.1.c.s), .slice a4 x.1.revs.length k4]) rfl Ty.sl82 rfl (fun _ => by kernel_rfl)) ?_
    rintro _ _ ⟨b5, rfl, rfl⟩
    refine ⟨(fun w h => ((((h.perm pl2).perm pl6).perm pl6)).dropEnd (L := [_, _, _])), ?_⟩
    refine WPD.perm pl3 ?_
    refine WPD.stepC 24 (by kernel_rfl) rfl rfl rfl rfl (by kernel_rfl) (Eff.append (m := 1) (n0 := g2.length) (news := [.int .i64 (x.1.v), .int .i64 (x.1.c.m), .int .i64 (x.1.c.s), .slice a4 x.1.revs.length k4]) rfl Ty.sl82 Ty.z135 rfl rfl rfl (.slice Ty.sl82 rfl rfl (fun w h => cells_range (h.range 1 rfl rfl))) (by omega) (by omega)) ?_
    rintro v6 _ ⟨onev6, rfl⟩
    refine ⟨(Sat W (Own 135 4 v6 (g2.length + 1) ((flatOf GV.cells g2) ++ ([.int .i64 (x.1.v), .int .i64 (x.1.c.m), .int .i64 (x.1.c.s), .slice a4 x.1.revs.length k4])) :: Blk b5 [.int .i64 (x.1.v), .int .i64 (x.1.c.m), .int .i64 (x.1.c.s), .slice a4 x.1.revs.length k4] 135 :: Own 81 2 (.slice a4 x.1.revs.length k4) x.1.revs.length (flatOf Rv.cells x.1.revs) :: A :: Kds (GVPe 81) g2 :: Blk b3 [.int .i64 (md.m), .int .i64 (md.s), v3] 84 :: Blk b1 [.int .i64 (md.m), .int .i64 (md.s), .slice (some ⟨b0, o0, none⟩) l.length c0] 35 :: Blk b2 [.int .i64 0, .int .i64 0, .slice none 0 0] 84 :: F)), (fun _ h => h), ?_⟩
    refine WPD.takeM 25 rfl rfl rfl rfl (by kernel_rfl) (by kernel_rfl) (by kernel_rfl) (by kernel_rfl) (fun _ _ _ h => h) (fun _ h => h) (Val.fieldAddr (j := 2) rfl Ty.fo84_1 rfl rfl) ?_
    refine WPD.perm pl5 ?_
    refine WPD.stepC0 26 (by kernel_rfl) rfl rfl rfl (by kernel_rfl) (Eff.store rfl Ty.sc82 rfl rfl onev6 (by simp) st2) ?_
    rintro _ _ rfl
    refine ⟨(Sat W (Blk b3 [.int .i64 (md.m), .int .i64 (md.s), v6] 84 :: Own 135 4 v6 (g2.length + 1) ((flatOf GV.cells g2) ++ ([.int .i64 (x.1.v), .int .i64 (x.1.c.m), .int .i64 (x.1.c.s), .slice a4 x.1.revs.length k4])) :: Blk b5 [.int .i64 (x.1.v), .int .i64 (x.1.c.m), .int .i64 (x.1.c.s), .slice a4 x.1.revs.length k4] 135 :: Own 81 2 (.slice a4 x.1.revs.length k4) x.1.revs.length (flatOf Rv.cells x.1.revs) :: A :: Kds (GVPe 81) g2 :: Blk b1 [.int .i64 (md.m), .int .i64 (md.s), .slice (some ⟨b0, o0, none⟩) l.length c0] 35 :: Blk b2 [.int .i64 0, .int .i64 0, .slice none 0 0] 84 :: F)), (fun _ h => h), ?_⟩
    refine WPD.done (by kernel_rfl) ?_
    refine Out.block ?_
    refine Out.next ?_
    refine WPc.region ?_
    refine WP.val rfl rfl rfl (Val.move rfl rfl) ?_
    refine WP.val rfl rfl rfl (Val.add (z := ((i + 1 : Nat) : Int)) rfl rfl rfl ((w64 (by omega) (by omega)).trans (by omega))) ?_
    refine WP.val rfl rfl rfl (Val.assign rfl rfl) ?_
    refine WP.nil ?_
    refine Out.perm pl2 ?_
    refine Out.drop ?_
    refine Out.perm pl3 ?_
    refine Out.perm pl6 ?_
    refine Out.perm pl6 ?_
    refine Out.perm pl3 ?_
    refine Out.perm pl6 ?_
    refine Out.perm pl6 ?_
    refine Out.perm pl6 ?_
    refine Out.again (i + 1, v6, g2 ++ [(x.1, .slice a4 x.1.revs.length k4)]) ?_ ?_ ?_ ?_
    · exact (by show i + 1 ≤ l.length ∧ (g2 ++ [(x.1, _)] : List GV).map (·.1) = (l.take (i + 1)).map (·.1); rw [take_more hx, List.map_append, List.map_append, hg2]; exact ⟨by omega, rfl⟩)
    · (dsimp only; omega)
    · exact (Sub.cons rfl (Sub.cons rfl (Sub.cons rfl (Sub.cons rfl Sub.nil))))
    · exact (fun w h => againE (p := (x.1, _)) (by rw [flatOf_append, flatOf_one, List.length_append]; exact h))
  · skip
    have h1 : ¬ (((i : Nat) : Int) < ((l.length : Nat) : Int)) := h1
    refine WPc.exit ?_
    refine Out.then_exit ?_
    refine Out.then_exit ?_
    refine Out.block_exit ?_
    refine Out.next ?_
    refine WPc.seq ?_
    refine WPc.fact (fun w h => own_oneCell h) (fun on3 => ?_)
    refine WPc.region ?_
    refine WP.val rfl rfl rfl (Val.loadAgg (cs := [.int .i64 (md.m), .int .i64 (md.s), v3]) rfl Ty.ag84 rfl rfl (fun w h => h.range 2 rfl rfl)) ?_
    refine WP.perm pl4 ?_
    refine WP.eff0 rfl rfl (Eff.storeAgg (cs := [.int .i64 (md.m), .int .i64 (md.s), v3]) (C' := [.int .i64 (md.m), .int .i64 (md.s), v3]) rfl Ty.ag84 rfl rfl rfl (by simp only [List.all_cons, List.all_nil, Bool.and_true, oc_int, oc_str, oc_bool, oc_ptr, oc_slice, oc_iface, oc_map, on3]) (by simp) rfl) ?_
    rintro _ _ rfl
    refine WP.nil ?_
    refine Out.next ?_
    refine WPc.ret ?_
    have hil : i = l.length := by omega
    rw [hil, List.take_length] at hg2
    refine Out.perm pl3 ?_
    refine Out.drop ?_
    refine Out.perm pl3 ?_
    refine Out.drop ?_
    exact Out.retRun (L' := _) (results_cell (cs := _) Try.results32 Ty.ag84 rfl rfl (fun w h => h.range 0 rfl rfl)) ⟨v3, g2, rfl, hg2, rfl⟩ (fun w h => h.drop)

theorem dumpin_spec (A : HProp) (md : Rv) (l : List GV) (hsm : Small (l.map (·.1))) (hin : ∀ p ∈ l, Rd A 2 Rv.cells p.2 p.1.revs) (va : Value) (hva : Rd A 4 GV.cells va l) : Does Try.prog 32 [.agg #[.int .i64 (md.m), .int .i64 (md.s), va]] [A] (fun v L => ∃ (v2 : Value) (g2 : List GV), v = .agg #[.int .i64 md.m, .int .i64 md.s, v2] ∧ g2.map (·.1) = l.map (·.1) ∧ L = [Own 135 4 v2 g2.length (flatOf GV.cells g2), Kds (GVPe 81) g2, A]) := by
  rcases hva with ⟨b0, o0, c0, rfl, hr⟩ | ⟨rfl, a, c, rfl⟩
  · exact dumpin_row A md l hsm hin b0 o0 c0 hr
  · exact dumpin_nil A md a c

end Go.Proofs.Ythicijpjpijdjaa.Kn

namespace Go.Proofs.Ythicijpjpijdjaa.Ko
open Go.RowKit Go.Proofs.Ythicijpjpijdjaa Go.Proofs.Ythicijpjpijdjaa.Sl Go.Proofs.Ythicijpjpijdjaa.KyP Go.Proofs.Ythicijpjpijdjaa.Ka Go.Proofs.Ythicijpjpijdjaa.Kb Go.Proofs.Ythicijpjpijdjaa.Kc Go.Proofs.Ythicijpjpijdjaa.Kd Go.Proofs.Ythicijpjpijdjaa.Ke Go.Proofs.Ythicijpjpijdjaa.Kf Go.Proofs.Ythicijpjpijdjaa.Kg Go.Proofs.Ythicijpjpijdjaa.Kh Go.Proofs.Ythicijpjpijdjaa.Ki Go.Proofs.Ythicijpjpijdjaa.Kj Go.Proofs.Ythicijpjpijdjaa.Kk Go.Proofs.Ythicijpjpijdjaa.Kl Go.Proofs.Ythicijpjpijdjaa.Km Go.Proofs.Ythicijpjpijdjaa.Kn
set_option linter.unusedVariables false
set_option linter.unusedSimpArgs false
set_option linter.unusedSectionVars false


theorem Srcs.rdR {P : Program} {W : World} {L : List HProp} {α : Type} {A : HProp} {k k' b' : Nat} {tx e' : TypeId} {cf : α → List Value} {l : List α} {va : Value} (hk : slcE P tx = some (e', k', b')) (hcf : ∀ x, (cf x).length = k) (h1 : (flatOf cf l).all (·.oneCell') = true) (h : Rd A k cf va l) (i : Nat) (hi : L[i]? = some A) : Srcs P W L k tx va l.length (flatOf cf l) := by
  rcases h with ⟨b, o, c, rfl, hr⟩ | ⟨rfl, a, c, rfl⟩
  · exact Srcs.rd hk hcf h1 hr i hi
  · exact Srcs.z hk
theorem Rd.one {α : Type} {A : HProp} {k : Nat} {cf : α → List Value} {l : List α} {va : Value} (h : Rd A k cf va l) : va.oneCell' = true := by
  rcases h with ⟨b, o, c, rfl, hr⟩ | ⟨rfl, a, c, rfl⟩ <;> rfl
theorem Rd.slice {α : Type} {A : HProp} {k : Nat} {cf : α → List Value} {l : List α} {va : Value} (h : Rd A k cf va l) : ∃ a c, va = .slice a l.length c := by
  rcases h with ⟨b, o, c, rfl, hr⟩ | ⟨rfl, a, c, rfl⟩ <;> exact ⟨_, _, rfl⟩
theorem Rd.row {α : Type} {A : HProp} {k : Nat} {cf : α → List Value} {l : List α} {va : Value} (h : Rd A k cf va l) (hl : 0 < l.length) : ∃ b o c, va = .slice (some ⟨b, o, none⟩) l.length c ∧ ∀ w, Holds A w → ∀ i x, l[i]? = some x → w.rangeAt b (o + i * k) (cf x) := by
  rcases h with ⟨b, o, c, rfl, hr⟩ | ⟨rfl, a, c, rfl⟩
  · exact ⟨b, o, c, rfl, hr⟩
  · cases hl
set_option maxRecDepth 100000 in
set_option maxHeartbeats 1000000 in
theorem zzin_nil (A : HProp) (ka : Option Addr) (kn kc : Nat) (md : Rv) (a : Option Addr) (c : Nat) : Does Try.prog 62 [.slice ka kn kc, .agg #[.int .i64 (md.m), .int .i64 (md.s), .slice a 0 c]] [A] (fun v L => ∃ (b : Nat) (v2 : Value) (g2 : List GV), v = .pointer (some ⟨b, 0, none⟩) ∧ g2.map (·.1) = ([] : List GV).map (·.1) ∧ L = [Blk b [.slice ka kn kc, .int .i64 md.m, .int .i64 md.s, v2] 153, Own 155 4 v2 g2.length (flatOf GV.cells g2), Kds (GVPe 81) g2, A]) := by
  refine Does.enter 39 Try.func62 rfl rfl rfl fun W F => ?_
  show WPc _ _ _ _ _ [(0, .slice ka kn kc), (1, .agg #[.int .i64 (md.m), .int .i64 (md.s), .slice a 0 c])] (A :: F)
  refine WPc.seq ?_
  refine WPc.region ?_
  refine WP.eff rfl rfl rfl (Eff.box (C := [.int .i64 (md.m), .int .i64 (md.s), .slice a 0 c]) rfl rfl rfl) ?_
  rintro _ _ ⟨b1, rfl, rfl⟩
  refine WP.val rfl rfl rfl (Val.assign rfl rfl) ?_
  refine WP.nil ?_
  refine Out.next ?_
  refine WPc.seq ?_
  refine WPc.region ?_
  refine WP.val rfl rfl rfl (Val.move rfl rfl) ?_
  refine WP.val rfl rfl rfl (Val.fieldAddr (j := 0) rfl Ty.fo84_0 rfl rfl) ?_
  refine WP.val rfl rfl rfl (Val.loadAgg (cs := [.int .i64 (md.m), .int .i64 (md.s)]) rfl Ty.ag81 rfl rfl (fun w h => h.range 0 rfl rfl)) ?_
  refine WP.val rfl rfl rfl (Val.mk (cs := [.slice ka kn kc, .int .i64 (md.m), .int .i64 (md.s), .slice none 0 0]) rfl rfl (fun _ => by kernel_rfl)) ?_
  refine WP.eff rfl rfl rfl (Eff.box (C := [.slice ka kn kc, .int .i64 (md.m), .int .i64 (md.s), .slice none 0 0]) rfl rfl rfl) ?_
  rintro _ _ ⟨b2, rfl, rfl⟩
  refine WP.val rfl rfl rfl (Val.assign rfl rfl) ?_
  refine WP.nil ?_
  refine Out.next ?_
  refine WPc.seq ?_
  refine WPc.seq ?_
  refine WPc.conv (fun w h => Sat.kNil (R := GVPe 81) h) ?_
  refine WPc.conv (fun w h => h.ownNil (e := 155) (k := 4)) ?_
  show WPc _ _ _ _ _ _ (Own 155 4 (.slice none 0 0) 0 ([]) :: Kds (GVPe 81) [] :: Blk b2 [.slice ka kn kc, .int .i64 (md.m), .int .i64 (md.s), .slice none 0 0] 153 :: Blk b1 [.int .i64 (md.m), .int .i64 (md.s), .slice a 0 c] 84 :: A :: F)
  refine WPc.region ?_
  refine WP.val rfl rfl rfl (Val.fieldAddr (j := 2) rfl Ty.fo84_1 rfl rfl) ?_
  refine WP.val rfl rfl rfl (Val.load rfl Ty.sc82 rfl (fun w h => h.cell 3 rfl rfl)) ?_
  refine WP.val rfl rfl rfl (Val.len rfl Ty.sl82 rfl) ?_
  refine WP.val rfl rfl rfl (Val.move rfl rfl) ?_
  refine WP.nil ?_
  refine Out.next ?_
  refine WPc.block ?_
  refine WPc.perm pl3 ?_
  refine WPc.drop ?_
  refine WPc.loop (ι := Nat × Value × List GV) (fun ⟨i, v3, g2⟩ => i ≤ 0 ∧ g2.map (·.1) = (([] : List GV).take i).map (·.1)) (fun ⟨i, v3, g2⟩ => [(5, .pointer (some ⟨b2, 0, none⟩)), (14, .slice a 0 c), (15, .int .i64 0), (16, .int .i64 (((i : Nat) : Int)))]) (fun ⟨i, v3, g2⟩ => Own 155 4 v3 g2.length (flatOf GV.cells g2) :: Kds (GVPe 81) g2 :: Blk b2 [.slice ka kn kc, .int .i64 (md.m), .int .i64 (md.s), v3] 153 :: A :: F) (fun ⟨i, v3, g2⟩ => 0 - i) (0, .slice none 0 0, []) ⟨Nat.zero_le _, rfl⟩ ((Sub.cons rfl (Sub.cons rfl (Sub.cons rfl (Sub.cons rfl Sub.nil))))) (fun _ h => h) ?_
  rintro ⟨i, v3, g2⟩ ⟨hi, hg2⟩
  show WPc _ _ _ _ _ [(5, .pointer (some ⟨b2, 0, none⟩)), (14, .slice a 0 c), (15, .int .i64 0), (16, .int .i64 (((i : Nat) : Int)))] (Own 155 4 v3 g2.length (flatOf GV.cells g2) :: Kds (GVPe 81) g2 :: Blk b2 [.slice ka kn kc, .int .i64 (md.m), .int .i64 (md.s), v3] 153 :: A :: F)
  replace hi : i ≤ 0 := hi
  replace hg2 : g2.map (·.1) = (([] : List GV).take i).map (·.1) := hg2
  have hgn := congrArg List.length hg2
  rw [List.length_map, List.length_map, List.length_take] at hgn
  refine WPc.seq ?_
  refine WPc.region ?_
  refine WP.val rfl rfl rfl (Val.lss rfl rfl rfl) ?_
  refine WP.nil ?_
  refine Out.next ?_
  refine WPc.seq ?_
  refine WPc.ifP rfl (fun h1 => ?_) (fun h1 => ?_)
  · skip
    have h1 : (((i : Nat) : Int) < (0 : Int)) := h1
    exfalso; omega
  · skip
    have h1 : ¬ (((i : Nat) : Int) < (0 : Int)) := h1
    refine WPc.exit ?_
    refine Out.then_exit ?_
    refine Out.then_exit ?_
    refine Out.block_exit ?_
    refine Out.next ?_
    refine WPc.seq ?_
    refine WPc.region ?_
    refine WP.val rfl rfl rfl (Val.move rfl rfl) ?_
    refine WP.val rfl rfl rfl (Val.assign rfl rfl) ?_
    refine WP.nil ?_
    refine Out.next ?_
    refine WPc.ret ?_
    have hil : i = 0 := by omega
    rw [hil] at hg2
    refine Out.perm pl3 ?_
    refine Out.perm pl2 ?_
    refine Out.perm pl2 ?_
    refine Out.perm pl3 ?_
    exact Out.ret1 (L' := _) Try.results62 rfl ⟨b2, v3, g2, rfl, hg2, rfl⟩ (fun _ h => h)

set_option maxRecDepth 100000 in
set_option maxHeartbeats 1000000 in
theorem zzin_row (A : HProp) (ka : Option Addr) (kn kc : Nat) (md : Rv) (l : List GV) (hsm : Small (l.map (·.1))) (hin : ∀ p ∈ l, Rd A 2 Rv.cells p.2 p.1.revs) (b0 o0 c0 : Nat) (hr : ∀ w, Holds A w → ∀ i x, l[i]? = some x → w.rangeAt b0 (o0 + i * 4) (GV.cells x)) : Does Try.prog 62 [.slice ka kn kc, .agg #[.int .i64 (md.m), .int .i64 (md.s), .slice (some ⟨b0, o0, none⟩) l.length c0]] [A] (fun v L => ∃ (b : Nat) (v2 : Value) (g2 : List GV), v = .pointer (some ⟨b, 0, none⟩) ∧ g2.map (·.1) = l.map (·.1) ∧ L = [Blk b [.slice ka kn kc, .int .i64 md.m, .int .i64 md.s, v2] 153, Own 155 4 v2 g2.length (flatOf GV.cells g2), Kds (GVPe 81) g2, A]) := by
  refine Does.enter 39 Try.func62 rfl rfl rfl fun W F => ?_
  show WPc _ _ _ _ _ [(0, .slice ka kn kc), (1, .agg #[.int .i64 (md.m), .int .i64 (md.s), .slice (some ⟨b0, o0, none⟩) l.length c0])] (A :: F)
  refine WPc.seq ?_
  refine WPc.region ?_
  refine WP.eff rfl rfl rfl (Eff.box (C := [.int .i64 (md.m), .int .i64 (md.s), .slice (some ⟨b0, o0, none⟩) l.length c0]) rfl rfl rfl) ?_
  rintro _ _ ⟨b1, rfl, rfl⟩
  refine WP.val rfl rfl rfl (Val.assign rfl rfl) ?_
  refine WP.nil ?_
  refine Out.next ?_
  refine WPc.seq ?_
  refine WPc.region ?_
  refine WP.val rfl rfl rfl (Val.move rfl rfl) ?_
  refine WP.val rfl rfl rfl (Val.fieldAddr (j := 0) rfl Ty.fo84_0 rfl rfl) ?_
  refine WP.val rfl rfl rfl (Val.loadAgg (cs := [.int .i64 (md.m), .int .i64 (md.s)]) rfl Ty.ag81 rfl rfl (fun w h => h.range 0 rfl rfl)) ?_
  refine WP.val rfl rfl rfl (Val.mk (cs := [.slice ka kn kc, .int .i64 (md.m), .int .i64 (md.s), .slice none 0 0]) rfl rfl (fun _ => by kernel_rfl)) ?_
  refine WP.eff rfl rfl rfl (Eff.box (C := [.slice ka kn kc, .int .i64 (md.m), .int .i64 (md.s), .slice none 0 0]) rfl rfl rfl) ?_
  rintro _ _ ⟨b2, rfl, rfl⟩
  refine WP.val rfl rfl rfl (Val.assign rfl rfl) ?_
  refine WP.nil ?_
  refine Out.next ?_
  refine WPc.seq ?_
  refine WPc.seq ?_
  refine WPc.conv (fun w h => Sat.kNil (R := GVPe 81) h) ?_
  refine WPc.conv (fun w h => h.ownNil (e := 155) (k := 4)) ?_
  show WPc _ _ _ _ _ _ (Own 155 4 (.slice none 0 0) 0 ([]) :: Kds (GVPe 81) [] :: Blk b2 [.slice ka kn kc, .int .i64 (md.m), .int .i64 (md.s), .slice none 0 0] 153 :: Blk b1 [.int .i64 (md.m), .int .i64 (md.s), .slice (some ⟨b0, o0, none⟩) l.length c0] 84 :: A :: F)
  refine WPc.region ?_
  refine WP.val rfl rfl rfl (Val.fieldAddr (j := 2) rfl Ty.fo84_1 rfl rfl) ?_
  refine WP.val rfl rfl rfl (Val.load rfl Ty.sc82 rfl (fun w h => h.cell 3 rfl rfl)) ?_
  refine WP.val rfl rfl rfl (Val.len rfl Ty.sl82 rfl) ?_
  refine WP.val rfl rfl rfl (Val.move rfl rfl) ?_
  refine WP.nil ?_
  refine Out.next ?_
  refine WPc.block ?_
  refine WPc.perm pl3 ?_
  refine WPc.drop ?_
  refine WPc.loop (ι := Nat × Value × List GV) (fun ⟨i, v3, g2⟩ => i ≤ l.length ∧ g2.map (·.1) = (l.take i).map (·.1)) (fun ⟨i, v3, g2⟩ => [(5, .pointer (some ⟨b2, 0, none⟩)), (14, .slice (some ⟨b0, o0, none⟩) l.length c0), (15, .int .i64 (((l.length : Nat) : Int))), (16, .int .i64 (((i : Nat) : Int)))]) (fun ⟨i, v3, g2⟩ => Own 155 4 v3 g2.length (flatOf GV.cells g2) :: Kds (GVPe 81) g2 :: Blk b2 [.slice ka kn kc, .int .i64 (md.m), .int .i64 (md.s), v3] 153 :: A :: F) (fun ⟨i, v3, g2⟩ => l.length - i) (0, .slice none 0 0, []) ⟨Nat.zero_le _, rfl⟩ ((Sub.cons rfl (Sub.cons rfl (Sub.cons rfl (Sub.cons rfl Sub.nil))))) (fun _ h => h) ?_
  rintro ⟨i, v3, g2⟩ ⟨hi, hg2⟩
  show WPc _ _ _ _ _ [(5, .pointer (some ⟨b2, 0, none⟩)), (14, .slice (some ⟨b0, o0, none⟩) l.length c0), (15, .int .i64 (((l.length : Nat) : Int))), (16, .int .i64 (((i : Nat) : Int)))] (Own 155 4 v3 g2.length (flatOf GV.cells g2) :: Kds (GVPe 81) g2 :: Blk b2 [.slice ka kn kc, .int .i64 (md.m), .int .i64 (md.s), v3] 153 :: A :: F)
  replace hi : i ≤ l.length := hi
  replace hg2 : g2.map (·.1) = (l.take i).map (·.1) := hg2
  have hgn := congrArg List.length hg2
  rw [List.length_map, List.length_map, List.length_take] at hgn
  have hlen := hsm.len
  refine WPc.seq ?_
  refine WPc.region ?_
  refine WP.val rfl rfl rfl (Val.lss rfl rfl rfl) ?_
  refine WP.nil ?_
  refine Out.next ?_
  refine WPc.seq ?_
  refine WPc.ifP rfl (fun h1 => ?_) (fun h1 => ?_)
  · skip
    have h1 : (((i : Nat) : Int) < ((l.length : Nat) : Int)) := h1
    refine WPc.skip ?_
    refine Out.next ?_
    refine WPc.seq ?_
    refine WPc.block ?_
    refine WPc.seq ?_
    have hlt : i < l.length := by omega
    obtain ⟨x, hx⟩ : ∃ x, l[i]? = some x := ⟨_, List.getElem?_eq_getElem hlt⟩
    have hxm : x ∈ l := List.mem_iff_getElem?.2 ⟨_, hx⟩
    have onx := Rd.one (hin x hxm)
    have hsx := hsm.inn hxm
    refine WPc.region ?_
    refine WP.val rfl rfl rfl (Val.indexAddr (j := i) (q := o0 + i * 4) rfl Ty.sl82 rfl rfl (by omega) (by omega) (by omega)) ?_
    refine WP.val rfl rfl rfl (Val.loadAgg (cs := (GV.cells x)) rfl Ty.ag135 rfl (by rfl) (fun w h => hr w (h.at 3 rfl) i x hx)) ?_
    refine WP.eff rfl rfl rfl (Eff.alloc rfl Ty.z135) ?_
    rintro _ _ ⟨b3, rfl, rfl⟩
    refine WP.eff0 rfl rfl (Eff.storeAgg (cs := [.int .i64 (x.1.v), .int .i64 (x.1.c.m), .int .i64 (x.1.c.s), x.2]) (C' := [.int .i64 (x.1.v), .int .i64 (x.1.c.m), .int .i64 (x.1.c.s), x.2]) rfl Ty.ag135 rfl rfl rfl (by simp only [List.all_cons, List.all_nil, Bool.and_true, oc_int, oc_str, oc_bool, oc_ptr, oc_slice, oc_iface, oc_map, onx]) (by simp) rfl) ?_
    rintro _ _ rfl
    refine WP.nil ?_
    refine Out.next ?_
    refine WPD.start (Sat W [Blk b2 [.slice ka kn kc, .int .i64 (md.m), .int .i64 (md.s), v3] 153, Blk b3 [.int .i64 (x.1.v), .int .i64 (x.1.c.m), .int .i64 (x.1.c.s), x.2] 135]) Ty.mixed ?_
    refine WPD.takeM 0 rfl rfl rfl rfl (by kernel_rfl) (by kernel_rfl) (by kernel_rfl) (by kernel_rfl) (fun _ _ _ h => h) (fun w h => ((h.perm pl3)).dropEnd (L := [_, _])) (Val.move rfl rfl) ?_
    refine WPD.takeM 1 rfl rfl rfl rfl (by kernel_rfl) (by kernel_rfl) (by kernel_rfl) (by kernel_rfl) (fun _ _ _ h => h) (fun w h => ((h.perm pl3)).dropEnd (L := [_, _])) (Val.move rfl rfl) ?_
    refine WPD.takeM 2 rfl rfl rfl rfl (by kernel_rfl) (by kernel_rfl) (by kernel_rfl) (by kernel_rfl) (fun _ _ _ h => h) (fun w h => ((h.perm pl3)).dropEnd (L := [_, _])) (Val.nilCheck rfl rfl) ?_
    refine WPD.takeM 3 rfl rfl rfl rfl (by kernel_rfl) (by kernel_rfl) (by kernel_rfl) (by kernel_rfl) (fun _ _ _ h => h) (fun w h => ((h.perm pl3)).dropEnd (L := [_, _])) (Val.fieldAddr (j := 3) rfl Ty.fo153_2 rfl rfl) ?_
    refine WPD.take 4 rfl rfl rfl rfl (by kernel_rfl) (by kernel_rfl) (by kernel_rfl) (by kernel_rfl) (fun _ _ _ h => h) (by kernel_rfl) (fun w h => ((h.perm pl3)).dropEnd (L := [_, _])) (Val.load rfl Ty.sc151 rfl (fun w h => h.cell 0 rfl rfl)) ?_
    refine WPD.takeM 5 rfl rfl rfl rfl (by kernel_rfl) (by kernel_rfl) (by kernel_rfl) (by kernel_rfl) (fun _ _ _ h => h) (fun w h => ((h.perm pl3)).dropEnd (L := [_, _])) (Val.fieldAddr (j := 0) rfl Ty.fo135_0 rfl rfl) ?_
    refine WPD.take 6 rfl rfl rfl rfl (by kernel_rfl) (by kernel_rfl) (by kernel_rfl) (by kernel_rfl) (fun _ _ _ h => h) (by kernel_rfl) (fun w h => ((h.perm pl3)).dropEnd (L := [_, _])) (Val.load rfl Ty.sc2 rfl (fun w h => h.cell 1 rfl rfl)) ?_
    refine WPD.takeM 7 rfl rfl rfl rfl (by kernel_rfl) (by kernel_rfl) (by kernel_rfl) (by kernel_rfl) (fun _ _ _ h => h) (fun w h => ((h.perm pl3)).dropEnd (L := [_, _])) (Val.fieldAddr (j := 1) rfl Ty.fo135_1 rfl rfl) ?_
    refine WPD.take 8 rfl rfl rfl rfl (by kernel_rfl) (by kernel_rfl) (by kernel_rfl) (by kernel_rfl) (fun _ _ _ h => h) (by kernel_rfl) (fun w h => ((h.perm pl3)).dropEnd (L := [_, _])) (Val.loadAgg (cs := [.int .i64 (x.1.c.m), .int .i64 (x.1.c.s)]) rfl Ty.ag81 rfl rfl (fun w h => h.range 1 rfl rfl)) ?_
    refine WPD.takeM 9 rfl rfl rfl rfl (by kernel_rfl) (by kernel_rfl) (by kernel_rfl) (by kernel_rfl) (fun _ _ _ h => h) (fun w h => ((h.perm pl3)).dropEnd (L := [_, _])) (Val.fieldAddr (j := 3) rfl Ty.fo135_2 rfl rfl) ?_
    refine WPD.take 10 rfl rfl rfl rfl (by kernel_rfl) (by kernel_rfl) (by kernel_rfl) (by kernel_rfl) (fun _ _ _ h => h) (by kernel_rfl) (fun w h => ((h.perm pl3)).dropEnd (L := [_, _])) (Val.load rfl Ty.sc132 rfl (fun w h => h.cell 1 rfl rfl)) ?_
    refine WPD.conv (fun w h => h.ownNil (e := 81) (k := 2)) ?_
    show WPD _ _ _ _ _ _ _ _ _ (Own 81 2 (.slice none 0 0) 0 ([]) :: Blk b3 [.int .i64 (x.1.v), .int .i64 (x.1.c.m), .int .i64 (x.1.c.s), x.2] 135 :: Own 155 4 v3 g2.length (flatOf GV.cells g2) :: Kds (GVPe 81) g2 :: Blk b2 [.slice ka kn kc, .int .i64 (md.m), .int .i64 (md.s), v3] 153 :: A :: F)
    refine WPD.step 11 (by kernel_rfl) rfl rfl rfl rfl (Eff.append (m := x.1.revs.length) (n0 := 0) (news := flatOf Rv.cells x.1.revs) rfl Ty.sl132 Ty.z81 rfl rfl rfl (Srcs.rdR Ty.sl132 Rv.len (rv_one _) (hin x hxm) 5 rfl) (by omega) (by omega)) ?_
    rintro v4 _ ⟨onev4, rfl⟩
    refine ⟨(fun w h => (((h.perm pl1).perm pl4)).dropEnd (L := [_, _])), ?_⟩
    refine WPD.fact (fun w h => own_slice h) (fun hsl5 => ?_)
    obtain ⟨a5, k5, rfl⟩ := hsl5
    show WPD _ _ _ _ _ _ _ _ _ (Own 81 2 (.slice a5 (0 + x.1.revs.length) k5) (0 + x.1.revs.length) (([]) ++ (flatOf Rv.cells x.1.revs)) :: Blk b3 [.int .i64 (x.1.v), .int .i64 (x.1.c.m), .int .i64 (x.1.c.s), x.2] 135 :: Own 155 4 v3 g2.length (flatOf GV.cells g2) :: Kds (GVPe 81) g2 :: Blk b2 [.slice ka kn kc, .int .i64 (md.m), .int .i64 (md.s), v3] 153 :: A :: F)
    refine WPD.takeM 12 rfl rfl rfl rfl (by kernel_rfl) (by kernel_rfl) (by kernel_rfl) (by kernel_rfl) (fun _ _ _ h => h) (fun w h => (((h.perm pl1).perm pl4)).dropEnd (L := [_, _])) (Val.mk (cs := [.int .i64 (x.1.v), .int .i64 (x.1.c.m), .int .i64 (x.1.c.s), .slice a5 (0 + x.1.revs.length) k5]) rfl rfl (fun _ => by kernel_rfl)) ?_
    refine WPD.step 13 (by kernel_rfl) rfl rfl rfl rfl (Eff.mkSlice (C := [.int .i64 (x.1.v), .int .i64 (x.1.c.m), .int .i64 (x.1.c.s), .slice a5 (0 + x.1.revs.length) k5]) rfl Ty.sl151 rfl (fun _ => by kernel_rfl)) ?_
    rintro _ _ ⟨b6, rfl, rfl⟩
    refine ⟨(fun w h => (((h.perm pl2).perm pl5)).dropEnd (L := [_, _])), ?_⟩
    refine WPD.perm pl3 ?_
    refine WPD.stepC 14 (by kernel_rfl) rfl rfl rfl rfl (by kernel_rfl) (Eff.append (m := 1) (n0 := g2.length) (news := [.int .i64 (x.1.v), .int .i64 (x.1.c.m), .int .i64 (x.1.c.s), .slice a5 (0 + x.1.revs.length) k5]) rfl Ty.sl151 Ty.z155 rfl rfl rfl (.slice Ty.sl151 rfl rfl (fun w h => cells_range (h.range 1 rfl rfl))) (by omega) (by omega)) ?_
    rintro v7 _ ⟨onev7, rfl⟩
    refine ⟨(Sat W (Own 155 4 v7 (g2.length + 1) ((flatOf GV.cells g2) ++ ([.int .i64 (x.1.v), .int .i64 (x.1.c.m), .int .i64 (x.1.c.s), .slice a5 (0 + x.1.revs.length) k5])) :: Blk b6 [.int .i64 (x.1.v), .int .i64 (x.1.c.m), .int .i64 (x.1.c.s), .slice a5 (0 + x.1.revs.length) k5] 155 :: Own 81 2 (.slice a5 (0 + x.1.revs.length) k5) (0 + x.1.revs.length) (([]) ++ (flatOf Rv.cells x.1.revs)) :: Blk b3 [.int .i64 (x.1.v), .int .i64 (x.1.c.m), .int .i64 (x.1.c.s), x.2] 135 :: Kds (GVPe 81) g2 :: Blk b2 [.slice ka kn kc, .int .i64 (md.m), .int .i64 (md.s), v3] 153 :: A :: F)), (fun _ h => h), ?_⟩
    refine WPD.takeM 15 rfl rfl rfl rfl (by kernel_rfl) (by kernel_rfl) (by kernel_rfl) (by kernel_rfl) (fun _ _ _ h => h) (fun _ h => h) (Val.nilCheck rfl rfl) ?_
    refine WPD.takeM 16 rfl rfl rfl rfl (by kernel_rfl) (by kernel_rfl) (by kernel_rfl) (by kernel_rfl) (fun _ _ _ h => h) (fun _ h => h) (Val.fieldAddr (j := 3) rfl Ty.fo153_2 rfl rfl) ?_
    refine WPD.perm pl5 ?_
    refine WPD.stepC0 17 (by kernel_rfl) rfl rfl rfl (by kernel_rfl) (Eff.store rfl Ty.sc151 rfl rfl onev7 (by simp) st3) ?_
    rintro _ _ rfl
    refine ⟨(Sat W (Blk b2 [.slice ka kn kc, .int .i64 (md.m), .int .i64 (md.s), v7] 153 :: Own 155 4 v7 (g2.length + 1) ((flatOf GV.cells g2) ++ ([.int .i64 (x.1.v), .int .i64 (x.1.c.m), .int .i64 (x.1.c.s), .slice a5 (0 + x.1.revs.length) k5])) :: Blk b6 [.int .i64 (x.1.v), .int .i64 (x.1.c.m), .int .i64 (x.1.c.s), .slice a5 (0 + x.1.revs.length) k5] 155 :: Own 81 2 (.slice a5 (0 + x.1.revs.length) k5) (0 + x.1.revs.length) (([]) ++ (flatOf Rv.cells x.1.revs)) :: Blk b3 [.int .i64 (x.1.v), .int .i64 (x.1.c.m), .int .i64 (x.1.c.s), x.2] 135 :: Kds (GVPe 81) g2 :: A :: F)), (fun _ h => h), ?_⟩
    refine WPD.done (by kernel_rfl) ?_
    refine Out.block ?_
    refine Out.next ?_
    refine WPc.region ?_
    refine WP.val rfl rfl rfl (Val.add (z := ((i + 1 : Nat) : Int)) rfl rfl rfl ((w64 (by omega) (by omega)).trans (by omega))) ?_
    refine WP.val rfl rfl rfl (Val.move rfl rfl) ?_
    refine WP.nil ?_
    refine Out.perm pl2 ?_
    refine Out.drop ?_
    refine Out.perm pl3 ?_
    refine Out.drop ?_
    refine Out.perm pl4 ?_
    refine Out.perm pl1 ?_
    refine Out.perm pl4 ?_
    refine Out.perm pl4 ?_
    refine Out.perm pl4 ?_
    refine Out.again (i + 1, v7, g2 ++ [(x.1, .slice a5 x.1.revs.length k5)]) ?_ ?_ ?_ ?_
    · exact (by show i + 1 ≤ l.length ∧ (g2 ++ [(x.1, _)] : List GV).map (·.1) = (l.take (i + 1)).map (·.1); rw [take_more hx, List.map_append, List.map_append, hg2]; exact ⟨by omega, rfl⟩)
    · (dsimp only; omega)
    · exact (Sub.cons rfl (Sub.cons rfl (Sub.cons rfl (Sub.cons rfl Sub.nil))))
    · exact (fun w h => againE (p := (x.1, _)) (by simp only [Nat.zero_add, List.nil_append] at h; rw [flatOf_append, flatOf_one, List.length_append]; exact h))
  · skip
    have h1 : ¬ (((i : Nat) : Int) < ((l.length : Nat) : Int)) := h1
    refine WPc.exit ?_
    refine Out.then_exit ?_
    refine Out.then_exit ?_
    refine Out.block_exit ?_
    refine Out.next ?_
    refine WPc.seq ?_
    refine WPc.region ?_
    refine WP.val rfl rfl rfl (Val.move rfl rfl) ?_
    refine WP.val rfl rfl rfl (Val.assign rfl rfl) ?_
    refine WP.nil ?_
    refine Out.next ?_
    refine WPc.ret ?_
    have hil : i = l.length := by omega
    rw [hil, List.take_length] at hg2
    refine Out.perm pl3 ?_
    refine Out.perm pl2 ?_
    refine Out.perm pl2 ?_
    refine Out.perm pl3 ?_
    exact Out.ret1 (L' := _) Try.results62 rfl ⟨b2, v3, g2, rfl, hg2, rfl⟩ (fun _ h => h)

theorem zzin_spec (A : HProp) (ka : Option Addr) (kn kc : Nat) (md : Rv) (l : List GV) (hsm : Small (l.map (·.1))) (hin : ∀ p ∈ l, Rd A 2 Rv.cells p.2 p.1.revs) (va : Value) (hva : Rd A 4 GV.cells va l) : Does Try.prog 62 [.slice ka kn kc, .agg #[.int .i64 (md.m), .int .i64 (md.s), va]] [A] (fun v L => ∃ (b : Nat) (v2 : Value) (g2 : List GV), v = .pointer (some ⟨b, 0, none⟩) ∧ g2.map (·.1) = l.map (·.1) ∧ L = [Blk b [.slice ka kn kc, .int .i64 md.m, .int .i64 md.s, v2] 153, Own 155 4 v2 g2.length (flatOf GV.cells g2), Kds (GVPe 81) g2, A]) := by
  rcases hva with ⟨b0, o0, c0, rfl, hr⟩ | ⟨rfl, a, c, rfl⟩
  · exact zzin_row A ka kn kc md l hsm hin b0 o0 c0 hr
  · exact zzin_nil A ka kn kc md a c
set_option maxRecDepth 100000 in
set_option maxHeartbeats 2000000 in
theorem newkey_slice (A : HProp) (ka : Option Addr) (kn kc : Nat) (md : Rv) (l : List GV) (hsm : Small (l.map (·.1))) (hin : ∀ p ∈ l, Rd A 2 Rv.cells p.2 p.1.revs) (sa : Option Addr) (sc : Nat) (hva : Rd A 4 GV.cells (.slice sa l.length sc) l) : Does Try.prog 31 [.slice ka kn kc, .agg #[.int .i64 (md.m), .int .i64 (md.s), .slice sa l.length sc]] [A] (fun v L => ∃ (b : Nat) (v2 : Value) (g2 : List GV), v = .agg #[.pointer (some ⟨b, 0, none⟩)] ∧ g2.map (·.1) = l.map (·.1) ∧ L = [Blk b [.slice ka kn kc, .int .i64 md.m, .int .i64 md.s, v2] 153, Own 155 4 v2 g2.length (flatOf GV.cells g2), Kds (GVPe 81) g2, A]) := by
  refine Does.enter 9 Try.func31 rfl rfl rfl fun W F => ?_
  show WPc _ _ _ _ _ [(0, .slice ka kn kc), (1, .agg #[.int .i64 (md.m), .int .i64 (md.s), .slice sa l.length sc])] (A :: F)
  refine WPc.seq ?_
  refine WPc.region ?_
  refine WP.eff rfl rfl rfl (Eff.box (C := [.int .i64 (md.m), .int .i64 (md.s), .slice sa l.length sc]) rfl rfl rfl) ?_
  rintro _ _ ⟨b1, rfl, rfl⟩
  refine WP.eff rfl rfl rfl (Eff.alloc rfl Ty.z78) ?_
  rintro _ _ ⟨b2, rfl, rfl⟩
  refine WP.nil ?_
  refine Out.next ?_
  refine WPc.seq ?_
  refine WPc.region ?_
  refine WP.val rfl rfl rfl (Val.move rfl rfl) ?_
  refine WP.val rfl rfl rfl (Val.loadAgg (cs := [.int .i64 (md.m), .int .i64 (md.s), .slice sa l.length sc]) rfl Ty.ag84 rfl rfl (fun w h => h.range 1 rfl rfl)) ?_
  refine WP.perm pl2 ?_
  refine WP.eff rfl rfl rfl (Eff.call rfl rfl Try.call62 (zzin_spec A ka kn kc md l hsm hin (.slice sa l.length sc) hva)) ?_
  rintro _ _ ⟨_, ⟨b, v2, g2, rfl, hg2, rfl⟩, rfl⟩
  show WP _ _ _ _ _ _ _ (Blk b [.slice ka kn kc, .int .i64 (md.m), .int .i64 (md.s), v2] 153 :: Own 155 4 v2 g2.length (flatOf GV.cells g2) :: Kds (GVPe 81) g2 :: A :: Blk b2 [.pointer none] 78 :: Blk b1 [.int .i64 (md.m), .int .i64 (md.s), .slice sa l.length sc] 84 :: F)
  refine WP.val rfl rfl rfl (Val.mk (cs := [.pointer (some ⟨b, 0, none⟩)]) rfl rfl (fun _ => by kernel_rfl)) ?_
  refine WP.perm pl4 ?_
  refine WP.eff0 rfl rfl (Eff.storeAgg (cs := [.pointer (some ⟨b, 0, none⟩)]) (C' := [.pointer (some ⟨b, 0, none⟩)]) rfl Ty.ag78 rfl rfl rfl rfl (by simp) rfl) ?_
  rintro _ _ rfl
  refine WP.nil ?_
  refine Out.next ?_
  refine WPc.ret ?_
  refine Out.perm pl5 ?_
  refine Out.drop ?_
  exact Out.retRun (L' := _) (results_cell (cs := [.pointer (some ⟨b, 0, none⟩)]) Try.results31 Ty.ag78 rfl rfl (fun w h => h.range 0 rfl rfl)) ⟨b, v2, g2, rfl, hg2, rfl⟩ (fun w h => h.drop)
theorem newkey_spec (A : HProp) (ka : Option Addr) (kn kc : Nat) (md : Rv) (l : List GV) (hsm : Small (l.map (·.1))) (va : Value) (hva : RdG A va l) : Does Try.prog 31 [.slice ka kn kc, .agg #[.int .i64 md.m, .int .i64 md.s, va]] [A] (fun v L => ∃ (b : Nat) (v2 : Value) (g2 : List GV), v = .agg #[.pointer (some ⟨b, 0, none⟩)] ∧ g2.map (·.1) = l.map (·.1) ∧ L = [Blk b [.slice ka kn kc, .int .i64 md.m, .int .i64 md.s, v2] 153, Own 155 4 v2 g2.length (flatOf GV.cells g2), Kds (GVPe 81) g2, A]) := by
  obtain ⟨sa, sc, rfl⟩ := Rd.slice hva.rd
  exact newkey_slice A ka kn kc md l hsm hva.inn sa sc hva.rd
theorem dumpin_all (A : HProp) (md : Rv) (l : List GV) (hsm : Small (l.map (·.1))) (va : Value) (hva : RdG A va l) : Does Try.prog 32 [.agg #[.int .i64 md.m, .int .i64 md.s, va]] [A] (fun v L => ∃ (v2 : Value) (g2 : List GV), v = .agg #[.int .i64 md.m, .int .i64 md.s, v2] ∧ g2.map (·.1) = l.map (·.1) ∧ L = [Own 135 4 v2 g2.length (flatOf GV.cells g2), Kds (GVPe 81) g2, A]) := dumpin_spec A md l hsm hva.inn va hva.rd

end Go.Proofs.Ythicijpjpijdjaa.Ko

