import Derived.Test.YthicijpjpijdjaaDoorWn
namespace Go.Proofs.YthicijpjpijdjaaDoor.Wo
open Go.RowKit Go.Proofs.YthicijpjpijdjaaDoor Go.Proofs.YthicijpjpijdjaaDoor.Sl Go.Proofs.YthicijpjpijdjaaDoor.Wa Go.Proofs.YthicijpjpijdjaaDoor.Wb Go.Proofs.YthicijpjpijdjaaDoor.Wc Go.Proofs.YthicijpjpijdjaaDoor.Wd Go.Proofs.YthicijpjpijdjaaDoor.We Go.Proofs.YthicijpjpijdjaaDoor.Wf Go.Proofs.YthicijpjpijdjaaDoor.Wg Go.Proofs.YthicijpjpijdjaaDoor.Wh Go.Proofs.YthicijpjpijdjaaDoor.Wi Go.Proofs.YthicijpjpijdjaaDoor.Wj Go.Proofs.YthicijpjpijdjaaDoor.Wk Go.Proofs.YthicijpjpijdjaaDoor.Wl Go.Proofs.YthicijpjpijdjaaDoor.Wm Go.Proofs.YthicijpjpijdjaaDoor.Wn
set_option linter.unusedVariables false
set_option linter.unusedSimpArgs false
set_option linter.unusedSectionVars false


theorem mu89_0 : mu0 Tryd.prog 89 0 = true := by kernel_rfl
theorem dec_open1 {W w : World} {db : Nat} {on : Bool} {fs : List Fil} {p off : Nat} {c : Int} {L : List HProp} (h : Sat W (Dec db on fs p off c :: L) w) : ∃ q : Value × Nat, Sat W (Blk db [q.1, .int .i64 ((off : Nat) : Int), ptrv q.2, .bool on] 89 :: Blk q.2 [.int .u32 c] 99 :: Ptrs q.1 (fs.map Prod.fst) :: Sep (filesL fs p) :: L) w := by
  obtain ⟨q, h⟩ := dec_open h
  have h2 : Sat W (filesL fs p ++ ([Blk db [q.1, .int .i64 ((off : Nat) : Int), ptrv q.2, .bool on] 89, Blk q.2 [.int .u32 c] 99, Ptrs q.1 (fs.map Prod.fst)] ++ L)) w := by
    refine h.perm ?_
    rw [← List.append_assoc]
    exact (List.perm_append_comm (l₁ := [_, _, _]) (l₂ := filesL fs p)).append_right L
  have h3 := Sat.sep_mk h2
  exact ⟨q, h3.perm pl3.symm⟩
theorem dec_mk1 {W w : World} {db cb : Nat} {v : Value} {on : Bool} {fs : List Fil} {p off : Nat} {c : Int} {L : List HProp} (h : Sat W (Blk db [v, .int .i64 ((off : Nat) : Int), ptrv cb, .bool on] 89 :: Blk cb [.int .u32 c] 99 :: Ptrs v (fs.map Prod.fst) :: Sep (filesL fs p) :: L) w) : Sat W (Dec db on fs p off c :: L) w := by
  have h2 := (h.perm pl3).sep
  refine dec_mk (v := v) (cb := cb) (fs := fs) (p := p) (h2.perm ?_)
  exact List.perm_append_comm_assoc (filesL fs p) [_, _, _] L
theorem dec_blk {w : World} {db : Nat} {on : Bool} {fs : List Fil} {p off : Nat} {c : Int} (h : Holds (Dec db on fs p off c) w) : ∃ C, Holds (Blk db C 89) w := by
  obtain ⟨r, s, hlt, q, s1, s2, q1, q2, q3, hB, -⟩ := h
  exact ⟨_, r, s1, fun b hb => hlt b (hb.imp id (q1 b)), hB⟩
set_option maxRecDepth 100000 in
set_option maxHeartbeats 2000000 in
theorem lock_spec (v : Value) : Does Tryd.prog 37 [v] [] (fun v L => v = .tuple #[] ∧ L = []) := by
  refine Does.enter 2 Tryd.func37 rfl rfl rfl fun W F => ?_
  show WPc _ _ _ _ _ [(0, v)] (F)
  refine WPc.skip ?_
  exact Out.end0 (L' := []) Tryd.results37 ⟨rfl, rfl⟩ (fun _ h => h)
set_option maxRecDepth 100000 in
set_option maxHeartbeats 2000000 in
theorem decode_spec (db : Nat) (on : Bool) (fs : List Fil) (p off : Nat) (c : Int) (rb : Nat) (ep : Addr) (t0 c0 : Option Int) (d0 : List UInt8) (ev : Value) (DO RO : HProp) (ih : Does Tryd.prog 75 [.pointer (some ⟨db, 0, none⟩), .pointer (some ⟨rb, 0, none⟩)] [Dec db on fs p off c, Rec rb none none [], Cel 0 0 (.iface 123 (.pointer (some ep)))] (fun v L => v = ev ∧ L = [DO, RO, Cel 0 0 (.iface 123 (.pointer (some ep)))])) : Does Tryd.prog 71 [.pointer (some ⟨db, 0, none⟩), .pointer (some ⟨rb, 0, none⟩)] [Dec db on (fs) p off c, Rec rb t0 c0 d0, Cel 0 0 (.iface 123 (.pointer (some ep)))] (fun v L => v = ev ∧ L = [DO, RO, Cel 0 0 (.iface 123 (.pointer (some ep)))]) := by
  refine Does.enterN 17 Tryd.func71 rfl rfl rfl fun W F => ?_
  show WPc _ _ _ _ _ [(0, .pointer (some ⟨db, 0, none⟩)), (1, .pointer (some ⟨rb, 0, none⟩))] (Dec db on (fs) p off c :: Rec rb t0 c0 d0 :: Cel 0 0 (.iface 123 (.pointer (some ep))) :: F)
  refine WPc.seq ?_
  refine WPc.region ?_
  refine WP.val rfl rfl rfl (Val.assign rfl rfl) ?_
  refine WP.nil ?_
  refine Out.next ?_
  refine WPc.seq ?_
  refine WPc.region ?_
  refine WP.val rfl rfl rfl (Val.move rfl rfl) ?_
  refine WP.perm pl1 ?_
  refine WP.eff rfl rfl rfl (Eff.call rfl rfl Tryd.call65 (reset_spec rb t0 c0 d0)) ?_
  rintro _ _ ⟨_, rfl, rfl⟩
  show WP _ _ _ _ _ _ _ (Rec rb none none [] :: Dec db on (fs) p off c :: Cel 0 0 (.iface 123 (.pointer (some ep))) :: F)
  refine WP.nil ?_
  refine Out.next ?_
  refine WPc.seq ?_
  refine WPc.region ?_
  refine WP.val rfl rfl rfl (Val.move rfl rfl) ?_
  refine WP.val rfl rfl rfl (Val.nilCheck rfl rfl) ?_
  refine WP.val rfl rfl rfl (Val.muE rfl mu89_0 rfl (fun w h => dec_blk (h.at 1 rfl))) ?_
  refine WP.eff rfl rfl rfl (Eff.call rfl rfl Tryd.call37 (lock_spec (.pointer (some ⟨db, 0, none⟩)))) ?_
  rintro _ _ ⟨_, ⟨rfl, rfl⟩, rfl⟩
  show WP _ _ _ _ _ _ _ (Rec rb none none [] :: Dec db on (fs) p off c :: Cel 0 0 (.iface 123 (.pointer (some ep))) :: F)
  refine WP.nil ?_
  refine Out.next ?_
  refine WPc.seq ?_
  refine WPc.region ?_
  refine WP.val rfl rfl rfl (Val.move rfl rfl) ?_
  refine WP.val rfl rfl rfl (Val.nilCheck rfl rfl) ?_
  refine WP.val rfl rfl rfl (Val.muE rfl mu89_0 rfl (fun w h => dec_blk (h.at 1 rfl))) ?_
  refine WP.defer rfl rfl rfl rfl (fun Dd hDd => ?_)
  show WP _ _ _ _ _ _ _ (Rec rb none none [] :: Dec db on (fs) p off c :: Cel 0 0 (.iface 123 (.pointer (some ep))) :: F)
  refine WP.nil ?_
  refine Out.next ?_
  refine WPc.seq ?_
  refine WPc.region ?_
  refine WP.val rfl rfl rfl (Val.move rfl rfl) ?_
  refine WP.val rfl rfl rfl (Val.move rfl rfl) ?_
  refine WP.perm pl2 ?_
  refine WP.perm pl1 ?_
  refine WP.perm pl2 ?_
  refine WP.eff rfl rfl rfl (Eff.call rfl rfl Tryd.call75 (ih)) ?_
  rintro _ _ ⟨_, ⟨rfl, rfl⟩, rfl⟩
  show WP _ _ _ _ _ _ _ (DO :: RO :: Cel 0 0 (.iface 123 (.pointer (some ep))) :: F)
  refine WP.val rfl rfl rfl (Val.assign rfl rfl) ?_
  refine WP.nil ?_
  refine Out.next ?_
  refine WPc.ret ?_
  exact Out.retN1 (L' := _) hDd quiet38 Tryd.call38 Tryd.results71 rfl ⟨rfl, rfl⟩ (fun _ h => h)
set_option maxRecDepth 100000 in
set_option maxHeartbeats 2000000 in
theorem lcrc_spec (db : Nat) (on : Bool) (fs : List Fil) (p off : Nat) (c : Int) : Does Tryd.prog 72 [.pointer (some ⟨db, 0, none⟩)] [Dec db on (fs) p off c] (fun v L => v = .int .u32 c ∧ L = [Dec db on fs p off c]) := by
  refine Does.enter 8 Tryd.func72 rfl rfl rfl fun W F => ?_
  show WPc _ _ _ _ _ [(0, .pointer (some ⟨db, 0, none⟩))] (Dec db on (fs) p off c :: F)
  refine WPc.seq ?_
  refine WPc.open (fun w h => dec_open1 h) ?_
  rintro ⟨bv, cb⟩
  show WPc _ _ _ _ _ _ (Blk db [bv, .int .i64 (((off : Nat) : Int)), .pointer (some ⟨cb, 0, none⟩), .bool (on)] 89 :: Blk cb [.int .u32 (c)] 99 :: Ptrs bv ((fs).map Prod.fst) :: Sep (filesL fs p) :: F)
  refine WPc.region ?_
  refine WP.val rfl rfl rfl (Val.assign rfl rfl) ?_
  refine WP.nil ?_
  refine Out.next ?_
  refine WPc.seq ?_
  refine WPc.region ?_
  refine WP.val rfl rfl rfl (Val.move rfl rfl) ?_
  refine WP.val rfl rfl rfl (Val.nilCheck rfl rfl) ?_
  refine WP.val rfl rfl rfl (Val.fieldAddr (j := 2) rfl Ty.fo89_3 rfl rfl) ?_
  refine WP.val rfl rfl rfl (Val.load rfl Ty.sc84 rfl (fun w h => h.cell 0 rfl rfl)) ?_
  refine WP.perm pl1 ?_
  refine WP.eff rfl rfl rfl (Eff.call rfl rfl Tryd.call40 (sum_spec cb c)) ?_
  rintro _ _ ⟨_, ⟨rfl, rfl⟩, rfl⟩
  show WP _ _ _ _ _ _ _ (Blk cb [.int .u32 (c)] 99 :: Blk db [bv, .int .i64 (((off : Nat) : Int)), .pointer (some ⟨cb, 0, none⟩), .bool (on)] 89 :: Ptrs bv ((fs).map Prod.fst) :: Sep (filesL fs p) :: F)
  refine WP.val rfl rfl rfl (Val.assign rfl rfl) ?_
  refine WP.nil ?_
  refine Out.next ?_
  refine WPc.ret ?_
  refine Out.perm pl3 ?_
  refine Out.perm pl3 ?_
  refine Out.perm pl2 ?_
  refine Out.perm pl3 ?_
  exact Out.ret1 (L' := [Dec db on fs p off c]) Tryd.results72 rfl ⟨rfl, rfl⟩ (fun w h => dec_mk1 h)
set_option maxRecDepth 100000 in
set_option maxHeartbeats 2000000 in
theorem loff_spec (db : Nat) (on : Bool) (fs : List Fil) (p off : Nat) (c : Int) : Does Tryd.prog 73 [.pointer (some ⟨db, 0, none⟩)] [Dec db on (fs) p off c] (fun v L => v = .int .i64 ((off : Nat) : Int) ∧ L = [Dec db on fs p off c]) := by
  refine Does.enter 7 Tryd.func73 rfl rfl rfl fun W F => ?_
  show WPc _ _ _ _ _ [(0, .pointer (some ⟨db, 0, none⟩))] (Dec db on (fs) p off c :: F)
  refine WPc.seq ?_
  refine WPc.open (fun w h => dec_open1 h) ?_
  rintro ⟨bv, cb⟩
  show WPc _ _ _ _ _ _ (Blk db [bv, .int .i64 (((off : Nat) : Int)), .pointer (some ⟨cb, 0, none⟩), .bool (on)] 89 :: Blk cb [.int .u32 (c)] 99 :: Ptrs bv ((fs).map Prod.fst) :: Sep (filesL fs p) :: F)
  refine WPc.region ?_
  refine WP.val rfl rfl rfl (Val.assign rfl rfl) ?_
  refine WP.nil ?_
  refine Out.next ?_
  refine WPc.seq ?_
  refine WPc.region ?_
  refine WP.val rfl rfl rfl (Val.move rfl rfl) ?_
  refine WP.val rfl rfl rfl (Val.nilCheck rfl rfl) ?_
  refine WP.val rfl rfl rfl (Val.fieldAddr (j := 1) rfl Ty.fo89_2 rfl rfl) ?_
  refine WP.val rfl rfl rfl (Val.load rfl Ty.sc2 rfl (fun w h => h.cell 0 rfl rfl)) ?_
  refine WP.val rfl rfl rfl (Val.assign rfl rfl) ?_
  refine WP.nil ?_
  refine Out.next ?_
  refine WPc.ret ?_
  exact Out.ret1 (L' := [Dec db on fs p off c]) Tryd.results73 rfl ⟨rfl, rfl⟩ (fun w h => dec_mk1 h)
set_option maxRecDepth 100000 in
set_option maxHeartbeats 2000000 in
theorem ucrc_spec (db : Nat) (on : Bool) (fs : List Fil) (p off : Nat) (c : Int) (u : Int) : Does Tryd.prog 74 [.pointer (some ⟨db, 0, none⟩), .int .u32 (u)] [Dec db on (fs) p off c] (fun v L => L = [Dec db on fs p off u]) := by
  refine Does.enter 9 Tryd.func74 rfl rfl rfl fun W F => ?_
  show WPc _ _ _ _ _ [(0, .pointer (some ⟨db, 0, none⟩)), (1, .int .u32 (u))] (Dec db on (fs) p off c :: F)
  refine WPc.open (fun w h => dec_open1 h) ?_
  rintro ⟨bv, cb⟩
  show WPc _ _ _ _ _ _ (Blk db [bv, .int .i64 (((off : Nat) : Int)), .pointer (some ⟨cb, 0, none⟩), .bool (on)] 89 :: Blk cb [.int .u32 (c)] 99 :: Ptrs bv ((fs).map Prod.fst) :: Sep (filesL fs p) :: F)
  refine WPc.region ?_
  refine WP.val rfl rfl rfl (Val.move rfl rfl) ?_
  refine WP.val rfl rfl rfl (Val.move rfl rfl) ?_
  refine WP.eff rfl rfl rfl (Eff.call rfl rfl Tryd.call31 (at_spec u)) ?_
  rintro _ _ ⟨_, ⟨nb, rfl, rfl⟩, rfl⟩
  show WP _ _ _ _ _ _ _ (Blk nb [.int .u32 (u)] 99 :: Blk db [bv, .int .i64 (((off : Nat) : Int)), .pointer (some ⟨cb, 0, none⟩), .bool (on)] 89 :: Blk cb [.int .u32 (c)] 99 :: Ptrs bv ((fs).map Prod.fst) :: Sep (filesL fs p) :: F)
  refine WP.val rfl rfl rfl (Val.nilCheck rfl rfl) ?_
  refine WP.val rfl rfl rfl (Val.fieldAddr (j := 2) rfl Ty.fo89_3 rfl rfl) ?_
  refine WP.perm pl1 ?_
  refine WP.eff0 rfl rfl (Eff.store rfl Ty.sc84 rfl rfl rfl (by simp) st2) ?_
  rintro _ _ rfl
  refine WP.nil ?_
  refine Out.perm pl2 ?_
  refine Out.drop ?_
  exact Out.end0 (L' := [Dec db on fs p off u]) Tryd.results74 rfl (fun w h => dec_mk1 h)

theorem row_set {fs : List Fil} {fb : Nat} {bs : List UInt8} {n : Nat} (h : fs.length < n) : ((fs.map fun x : Fil => ptrv x.1) ++ List.replicate (n - fs.length) (Value.pointer none)).set fs.length (ptrv fb) = ((fs ++ [(fb, bs)]).map fun x : Fil => ptrv x.1) ++ List.replicate (n - (fs ++ [(fb, bs)]).length) (Value.pointer none) := by
  have e : n - fs.length = (n - (fs.length + 1)) + 1 := by omega
  rw [List.set_append_right _ _ (by simp), List.length_map, Nat.sub_self, e, List.replicate_succ, List.set_cons_zero]
  simp
def fcell (x : Value × List UInt8) : List Value := [x.1]
theorem fcell_len (x : Value × List UInt8) : (fcell x).length = 1 := rfl
theorem kds_snoc {W w : World} {fs : List Fil} {fb : Nat} {bs : List UInt8} {L : List HProp} (h : Sat W (Rdr fb bs 0 :: Kds (fun y : Fil => Rdr y.1 y.2 0) fs :: L) w) : Sat W (Kds (fun y : Fil => Rdr y.1 y.2 0) (fs ++ [(fb, bs)]) :: L) w :=
  Sat.kPerm (List.perm_append_comm (l₁ := [(fb, bs)]) (l₂ := fs)) (Sat.kConsMk (x := ((fb, bs) : Fil)) h)
theorem allNil1 {W w : World} {L : List HProp} (h : Sat W L w) : Sat W (Kds (fun y : Fil => Rdr y.1 y.2 0) [] :: L) w := h.kNil
theorem at_fcell {fl : List (Value × List UInt8)} {i : Nat} {x : Value × List UInt8} (h : fl[i]? = some x) (sp : List Value) : (flatOf fcell fl ++ sp)[i]? = some x.1 := by
  have hlt := (List.getElem?_eq_some_iff.1 h).1
  have e : flatOf fcell fl = fl.map Prod.fst := by
    clear h hlt
    induction fl with
    | nil => rfl
    | cons y fl ih => simp only [flatOf, List.flatMap_cons, fcell] at *; rw [ih]; rfl
  rw [e, List.getElem?_append_left (by simpa using hlt), List.getElem?_map, h]; rfl

theorem rep_flat {α : Type} (n : Nat) (x : α) : (List.replicate n [x]).flatten = List.replicate n x := by
  induction n with
  | zero => rfl
  | succ n ih => rw [List.replicate_succ, List.flatten_cons, ih]; rfl
set_option maxRecDepth 100000 in
set_option maxHeartbeats 2000000 in
theorem newdec_spec (on : Bool) (lv : Value) (fl : List (Value × List UInt8)) (hn : 0 < fl.length) (hn2 : fl.length ≤ 1000000) : Does Tryd.prog 19 [.bool (on), lv] [Own 51 1 lv fl.length (flatOf fcell fl), AllP (fun x : Value × List UInt8 => Byts x.1 x.2) fl] (fun v L => ∃ db y ys, (y :: ys).map Prod.snd = fl.map Prod.snd ∧ v = .iface 83 (.pointer (some ⟨db, 0, none⟩)) ∧ L = [Dec db on (y :: ys) 0 0 0]) := by
  refine Does.enter 30 Tryd.func19 rfl rfl rfl fun W F => ?_
  show WPc _ _ _ _ _ [(0, .bool (on)), (1, lv)] (Own 51 1 lv fl.length (flatOf fcell fl) :: AllP (fun x : Value × List UInt8 => Byts x.1 x.2) fl :: F)
  refine WPc.seq ?_
  refine WPc.region ?_
  refine WP.val rfl rfl rfl (Val.assign rfl rfl) ?_
  refine WP.nil ?_
  refine Out.next ?_
  refine WPc.seq ?_
  refine WPc.open (fun w h => h.ownPos (by omega)) ?_
  rintro ⟨g1, cg1, spg1⟩
  refine WPc.pure (fun hvg1 => ?_)
  obtain ⟨rfl, hng1, hlg1, hsg1, hcg1⟩ := hvg1
  dsimp only at hng1 hlg1 hsg1 hcg1
  show WPc _ _ _ _ _ _ (Blk g1 (flatOf fcell fl ++ spg1) 51 :: AllP (fun x : Value × List UInt8 => Byts x.1 x.2) fl :: F)
  refine WPc.region ?_
  refine WP.val rfl rfl rfl (Val.move rfl rfl) ?_
  refine WP.val rfl rfl rfl (Val.len rfl Ty.sl50 rfl) ?_
  refine WP.eff rfl rfl rfl (Eff.makeSlice (m := fl.length) (c := fl.length) (z := [.pointer none]) rfl Ty.sl80 Ty.z81 rfl rfl rfl rfl rfl (by omega) (by omega) (by omega)) ?_
  rintro _ _ ⟨b2, rfl, rfl⟩
  refine WP.val rfl rfl rfl (Val.assign rfl rfl) ?_
  refine WP.nil ?_
  refine Out.next ?_
  refine WPc.seq ?_
  refine WPc.seq ?_
  refine WPc.region ?_
  refine WP.val rfl rfl rfl (Val.move rfl rfl) ?_
  refine WP.val rfl rfl rfl (Val.len rfl Ty.sl50 rfl) ?_
  refine WP.val rfl rfl rfl (Val.move rfl rfl) ?_
  refine WP.nil ?_
  refine Out.next ?_
  refine WPc.block ?_
  refine WPc.loop (ι := List Fil) (fun fs => fs.length ≤ fl.length ∧ fs.map Prod.snd = (fl.take fs.length).map Prod.snd) (fun fs => [(0, .bool (on)), (1, .slice (some ⟨g1, 0, none⟩) fl.length cg1), (5, .slice (some ⟨b2, 0, none⟩) fl.length fl.length), (10, .slice (some ⟨g1, 0, none⟩) fl.length cg1), (11, .int .i64 (((fl.length : Nat) : Int))), (12, .int .i64 (((fs.length : Nat) : Int)))]) (fun fs => Blk b2 ((fs.map fun x : Fil => ptrv x.1) ++ List.replicate (fl.length - fs.length) (Value.pointer none)) 81 :: Blk g1 (flatOf fcell fl ++ spg1) 51 :: AllP (fun x : Value × List UInt8 => Byts x.1 x.2) fl :: Kds (fun y : Fil => Rdr y.1 y.2 0) fs :: F) (fun fs => fl.length - fs.length) [] ⟨Nat.zero_le _, rfl⟩ ((Sub.cons rfl (Sub.cons rfl (Sub.cons rfl (Sub.cons rfl (Sub.cons rfl (Sub.cons rfl Sub.nil))))))) (fun w h => by simpa [rep_flat] using ((allNil1 h).perm pl3.symm)) ?_
  rintro fs ⟨hfl, hfe⟩
  show WPc _ _ _ _ _ [(0, .bool (on)), (1, .slice (some ⟨g1, 0, none⟩) fl.length cg1), (5, .slice (some ⟨b2, 0, none⟩) fl.length fl.length), (10, .slice (some ⟨g1, 0, none⟩) fl.length cg1), (11, .int .i64 (((fl.length : Nat) : Int))), (12, .int .i64 (((fs.length : Nat) : Int)))] (Blk b2 ((fs.map fun x : Fil => ptrv x.1) ++ List.replicate (fl.length - fs.length) (Value.pointer none)) 81 :: Blk g1 (flatOf fcell fl ++ spg1) 51 :: AllP (fun x : Value × List UInt8 => Byts x.1 x.2) fl :: Kds (fun y : Fil => Rdr y.1 y.2 0) fs :: F)
  refine WPc.seq ?_
  refine WPc.region ?_
  refine WP.val rfl rfl rfl (Val.lss rfl rfl rfl) ?_
  refine WP.nil ?_
  refine Out.next ?_
  refine WPc.seq ?_
  refine WPc.ifP rfl (fun h1 => ?_) (fun h1 => ?_)
  · skip
    have h1 : (((fs.length : Nat) : Int) < ((fl.length : Nat) : Int)) := h1
    refine WPc.skip ?_
    refine Out.next ?_
    refine WPc.seq ?_
    refine WPc.block ?_
    refine WPc.seq ?_
    refine WPc.region ?_
    refine WP.val rfl rfl rfl (Val.move rfl rfl) ?_
    refine WP.val rfl rfl rfl (Val.assign rfl rfl) ?_
    refine WP.nil ?_
    refine Out.next ?_
    have hlt : fs.length < fl.length := by omega
    obtain ⟨x, hx⟩ : ∃ x, fl[fs.length]? = some x := ⟨_, List.getElem?_eq_getElem hlt⟩
    refine WPc.perm pl2 ?_
    refine WPc.conv (fun w h => Sat.allGet (List.mem_of_getElem? hx) h) ?_
    show WPc _ _ _ _ _ _ (Byts x.1 x.2 :: AllP (fun x : Value × List UInt8 => Byts x.1 x.2) fl :: Blk b2 ((fs.map fun x : Fil => ptrv x.1) ++ List.replicate (fl.length - fs.length) (Value.pointer none)) 81 :: Blk g1 (flatOf fcell fl ++ spg1) 51 :: Kds (fun y : Fil => Rdr y.1 y.2 0) fs :: F)
    refine WPc.region ?_
    refine WP.val rfl rfl rfl (Val.move rfl rfl) ?_
    refine WP.val rfl rfl rfl (Val.move rfl rfl) ?_
    refine WP.val rfl rfl rfl (Val.move rfl rfl) ?_
    refine WP.val rfl rfl rfl (Val.move rfl rfl) ?_
    refine WP.val rfl rfl rfl (Val.indexAddr (j := fs.length) (q := fs.length) rfl Ty.sl50 rfl rfl (by omega) (by omega) (by omega)) ?_
    refine WP.val rfl rfl rfl (Val.load (v := x.1) rfl Ty.sc51 rfl (fun w h => h.cell 3 rfl (at_fcell hx _))) ?_
    have hset := row_set (fs := fs) (fb := 0) (bs := x.2) hlt
    refine WP.eff rfl rfl rfl (Eff.call rfl rfl Tryd.call30 (nfb_spec x.1 x.2)) ?_
    rintro _ _ ⟨_, ⟨nfb, rfl, rfl⟩, rfl⟩
    show WP _ _ _ _ _ _ _ (Rdr nfb x.2 0 :: AllP (fun x : Value × List UInt8 => Byts x.1 x.2) fl :: Blk b2 ((fs.map fun x : Fil => ptrv x.1) ++ List.replicate (fl.length - fs.length) (Value.pointer none)) 81 :: Blk g1 (flatOf fcell fl ++ spg1) 51 :: Kds (fun y : Fil => Rdr y.1 y.2 0) fs :: F)
    refine WP.val rfl rfl rfl (Val.indexAddr (j := fs.length) (q := fs.length) rfl Ty.sl80 rfl rfl (by omega) (by omega) (by omega)) ?_
    refine WP.perm pl2 ?_
    refine WP.eff0 rfl rfl (Eff.store (C' := ((fs ++ [(nfb, x.2)]).map fun x : Fil => ptrv x.1) ++ List.replicate (fl.length - (fs ++ [(nfb, x.2)]).length) (Value.pointer none)) rfl Ty.sc81 rfl rfl rfl (by simp; omega) (row_set (fb := nfb) (bs := x.2) hlt)) ?_
    rintro _ _ rfl
    refine WP.nil ?_
    refine Out.block ?_
    refine Out.next ?_
    refine WPc.region ?_
    refine WP.val rfl rfl rfl (Val.add (z := ((fs.length + 1 : Nat) : Int)) rfl rfl rfl ((w64 (by omega) (by omega)).trans (by omega))) ?_
    refine WP.val rfl rfl rfl (Val.move rfl rfl) ?_
    refine WP.nil ?_
    refine Out.perm pl4 ?_
    refine Out.perm pl2 ?_
    refine Out.conv (fun w h => kds_snoc h) ?_
    show Out _ _ _ _ _ (Kds (fun y : Fil => Rdr y.1 y.2 0) (fs ++ [(nfb, x.2)]) :: Blk b2 (((fs ++ [(nfb, x.2)]).map fun x : Fil => ptrv x.1) ++ List.replicate (fl.length - (fs ++ [(nfb, x.2)]).length) (Value.pointer none)) 81 :: AllP (fun x : Value × List UInt8 => Byts x.1 x.2) fl :: Blk g1 (flatOf fcell fl ++ spg1) 51 :: F)
    have hl1 : (fs ++ [(nfb, x.2)]).length = fs.length + 1 := by simp
    refine Out.perm pl2 ?_
    refine Out.perm pl3 ?_
    refine Out.perm pl3 ?_
    refine Out.again (fs ++ [(nfb, x.2)]) ?_ ?_ ?_ ?_
    · exact ⟨by omega, by rw [hl1, take_more hx, List.map_append, List.map_append, hfe]; rfl⟩
    · (show fl.length - (fs ++ [(nfb, x.2)]).length < fl.length - fs.length; omega)
    · exact (Sub.cons rfl (Sub.cons rfl (Sub.cons rfl (Sub.cons rfl (Sub.cons rfl (Sub.cons (congrArg some (congrArg (Value.int .i64) (by omega))) Sub.nil))))))
    · exact (fun _ h => h)
  · skip
    have h1 : ¬ (((fs.length : Nat) : Int) < ((fl.length : Nat) : Int)) := h1
    refine WPc.exit ?_
    refine Out.then_exit ?_
    refine Out.then_exit ?_
    refine Out.block_exit ?_
    refine Out.next ?_
    refine WPc.seq ?_
    have hfn : fs.length = fl.length := by omega
    have hfs : fs.map Prod.snd = fl.map Prod.snd := by rw [hfe, hfn, List.take_length]
    obtain ⟨y, ys, rfl⟩ : ∃ y ys, fs = y :: ys := by
      cases fs with
      | nil => simp at hfn; omega
      | cons y ys => exact ⟨y, ys, rfl⟩
    refine WPc.region ?_
    refine WP.val rfl rfl rfl (Val.move rfl rfl) ?_
    refine WP.eff rfl rfl rfl (Eff.call rfl rfl Tryd.call31 (at_spec 0)) ?_
    rintro _ _ ⟨_, ⟨nb, rfl, rfl⟩, rfl⟩
    show WP _ _ _ _ _ _ _ (Blk nb [.int .u32 (0)] 99 :: Blk b2 (((y :: ys).map fun x : Fil => ptrv x.1) ++ List.replicate (fl.length - (y :: ys).length) (Value.pointer none)) 81 :: Blk g1 (flatOf fcell fl ++ spg1) 51 :: AllP (fun x : Value × List UInt8 => Byts x.1 x.2) fl :: Kds (fun y : Fil => Rdr y.1 y.2 0) (y :: ys) :: F)
    refine WP.val rfl rfl rfl (Val.move rfl rfl) ?_
    refine WP.val rfl rfl rfl (Val.mk (cs := [.slice (some ⟨b2, 0, none⟩) fl.length fl.length, .int .i64 0, .pointer (some ⟨nb, 0, none⟩), .bool (on)]) rfl rfl (fun _ => by kernel_rfl)) ?_
    refine WP.eff rfl rfl rfl (Eff.box (C := [.slice (some ⟨b2, 0, none⟩) fl.length fl.length, .int .i64 0, .pointer (some ⟨nb, 0, none⟩), .bool (on)]) rfl rfl rfl) ?_
    rintro _ _ ⟨b3, rfl, rfl⟩
    refine WP.val rfl rfl rfl (Val.iface rfl rfl Ty.ni83) ?_
    refine WP.val rfl rfl rfl (Val.assign rfl rfl) ?_
    refine WP.nil ?_
    refine Out.next ?_
    refine WPc.ret ?_
    refine Out.perm pl5 ?_
    refine Out.conv (fun w h => h.kCons) ?_
    show Out _ _ _ _ _ (Rdr y.1 y.2 0 :: Kds (fun y : Fil => Rdr y.1 y.2 0) ys :: Blk b3 [.slice (some ⟨b2, 0, none⟩) fl.length fl.length, .int .i64 0, .pointer (some ⟨nb, 0, none⟩), .bool (on)] 89 :: Blk nb [.int .u32 (0)] 99 :: Blk b2 (((y :: ys).map fun x : Fil => ptrv x.1) ++ List.replicate (fl.length - (y :: ys).length) (Value.pointer none)) 81 :: Blk g1 (flatOf fcell fl ++ spg1) 51 :: AllP (fun x : Value × List UInt8 => Byts x.1 x.2) fl :: F)
    refine Out.perm pl4 ?_
    refine Out.conv (fun w h => ptrs_mk (o := 0) (ps := (y :: ys).map Prod.fst) (c := fl.length) h.freeze (by simp at hfn ⊢; omega) (by simp [ptrv, Function.comp_def])) ?_
    show Out _ _ _ _ _ (Ptrs (.slice (some ⟨b2, 0, none⟩) ((y :: ys).map Prod.fst).length fl.length) ((y :: ys).map Prod.fst) :: Rdr y.1 y.2 0 :: Kds (fun y : Fil => Rdr y.1 y.2 0) ys :: Blk b3 [.slice (some ⟨b2, 0, none⟩) fl.length fl.length, .int .i64 0, .pointer (some ⟨nb, 0, none⟩), .bool (on)] 89 :: Blk nb [.int .u32 (0)] 99 :: Blk g1 (flatOf fcell fl ++ spg1) 51 :: AllP (fun x : Value × List UInt8 => Byts x.1 x.2) fl :: F)
    refine Out.perm pl3 ?_
    refine Out.conv (M := Blk b3 [.slice (some ⟨b2, 0, none⟩) ((y :: ys).map Prod.fst).length fl.length, .int .i64 0, .pointer (some ⟨nb, 0, none⟩), .bool (on)] 89 :: Ptrs (.slice (some ⟨b2, 0, none⟩) ((y :: ys).map Prod.fst).length fl.length) ((y :: ys).map Prod.fst) :: Rdr y.1 y.2 0 :: Kds (fun y : Fil => Rdr y.1 y.2 0) ys :: Blk nb [.int .u32 (0)] 99 :: Blk g1 (flatOf fcell fl ++ spg1) 51 :: AllP (fun x : Value × List UInt8 => Byts x.1 x.2) fl :: F) (fun w h => by rw [show ((y :: ys).map Prod.fst).length = fl.length from by rw [List.length_map]; exact hfn]; rw [show ((y :: ys).map Prod.fst).length = fl.length from by rw [List.length_map]; exact hfn] at h; exact h) ?_
    refine Out.perm pl5 ?_
    refine Out.drop ?_
    refine Out.perm pl5 ?_
    refine Out.drop ?_
    refine Out.perm pl3 ?_
    refine Out.perm pl3 ?_
    refine Out.perm pl3 ?_
    refine Out.perm pl4 ?_
    refine Out.perm pl4 ?_
    exact Out.ret1 (L' := [Dec b3 on (y :: ys) 0 0 0]) Tryd.results19 rfl ⟨b3, _, _, hfs, rfl, rfl⟩ (fun w h => dec_mk (fs := y :: ys) (p := 0) (off := 0) h)

end Go.Proofs.YthicijpjpijdjaaDoor.Wo
