import Derived.Test.YthicijpjpijdjaaDoorWm
namespace Go.Proofs.YthicijpjpijdjaaDoor.Wn
open Go.RowKit Go.Proofs.YthicijpjpijdjaaDoor Go.Proofs.YthicijpjpijdjaaDoor.Sl Go.Proofs.YthicijpjpijdjaaDoor.Wa Go.Proofs.YthicijpjpijdjaaDoor.Wb Go.Proofs.YthicijpjpijdjaaDoor.Wc Go.Proofs.YthicijpjpijdjaaDoor.Wd Go.Proofs.YthicijpjpijdjaaDoor.We Go.Proofs.YthicijpjpijdjaaDoor.Wf Go.Proofs.YthicijpjpijdjaaDoor.Wg Go.Proofs.YthicijpjpijdjaaDoor.Wh Go.Proofs.YthicijpjpijdjaaDoor.Wi Go.Proofs.YthicijpjpijdjaaDoor.Wj Go.Proofs.YthicijpjpijdjaaDoor.Wk Go.Proofs.YthicijpjpijdjaaDoor.Wl Go.Proofs.YthicijpjpijdjaaDoor.Wm
set_option linter.unusedVariables false
set_option linter.unusedSimpArgs false
set_option linter.unusedSectionVars false


def ptrv (b : Nat) : Value := .pointer (some ⟨b, 0, none⟩)
/-- a slice of pointers, for good -/
def Ptrs (v : Value) (ps : List Nat) : HProp := Ex fun q : Nat × Nat × Nat × List Value × TypeId => Sep [Pure (v = .slice (some ⟨q.1, q.2.1, none⟩) ps.length q.2.2.1 ∧ ps.length ≤ q.2.2.1 ∧ (q.2.2.2.1.drop q.2.1).take ps.length = ps.map ptrv), Ro (Blk q.1 q.2.2.2.1 q.2.2.2.2)]
theorem ptrs_open {W w : World} {v : Value} {ps : List Nat} {L : List HProp} (h : Sat W (Ptrs v ps :: L) w) : ∃ q : Nat × Nat × Nat × List Value × TypeId, Sat W (Pure (v = .slice (some ⟨q.1, q.2.1, none⟩) ps.length q.2.2.1 ∧ ps.length ≤ q.2.2.1 ∧ (q.2.2.2.1.drop q.2.1).take ps.length = ps.map ptrv) :: Ro (Blk q.1 q.2.2.2.1 q.2.2.2.2) :: L) w := by
  obtain ⟨q, h⟩ := h.ex
  exact ⟨q, h.sep⟩
theorem ptrs_mk {W w : World} {b o c : Nat} {C : List Value} {T : TypeId} {ps : List Nat} {L : List HProp} (h : Sat W (Ro (Blk b C T) :: L) w) (hc : ps.length ≤ c) (hC : (C.drop o).take ps.length = ps.map ptrv) : Sat W (Ptrs (.slice (some ⟨b, o, none⟩) ps.length c) ps :: L) w := Sat.ex_mk (b, o, c, C, T) (Sat.sep_mk (Sat.pure_mk ⟨rfl, hc, hC⟩ h))
theorem ptrs_head {C : List Value} {o : Nat} {x : Nat} {ps : List Nat} (h : (C.drop o).take (x :: ps).length = (x :: ps).map ptrv) : C[o]? = some (ptrv x) := by
  have h2 := congrArg (fun l => l[0]?) h
  simp only [List.getElem?_take, List.getElem?_drop, List.length_cons, Nat.add_zero] at h2
  rw [if_pos (by omega)] at h2
  exact h2
theorem ptrs_tail {C : List Value} {o c : Nat} {x : Nat} {ps : List Nat} (h : (C.drop o).take (x :: ps).length = (x :: ps).map ptrv) (hc : (x :: ps).length ≤ c) : (C.drop (if c = 1 then o else o + 1)).take ps.length = ps.map ptrv := by
  split
  · rename_i e
    have : ps = [] := by
      cases ps with
      | nil => rfl
      | cons y ps => simp at hc; omega
    subst this
    simp
  · have h2 := congrArg (fun l => l.drop 1) h
    simp only [List.drop_take, List.drop_drop, List.length_cons, List.map_cons, List.drop_one, List.tail_cons] at h2
    exact h2
abbrev Fil := Nat × List UInt8
def filesL (fs : List Fil) (p : Nat) : List HProp := match fs with
  | [] => []
  | x :: xs => [Rdr x.1 x.2 p, Kds (fun y : Fil => Rdr y.1 y.2 0) xs]
/-- a decoder over the files that are left, the first of them read up to p -/
def Dec (db : Nat) (on : Bool) (fs : List Fil) (p off : Nat) (c : Int) : HProp := Ex fun q : Value × Nat => Sep ([Blk db [q.1, .int .i64 ((off : Nat) : Int), ptrv q.2, .bool on] 89, Blk q.2 [.int .u32 c] 99, Ptrs q.1 (fs.map Prod.fst)] ++ filesL fs p)
theorem dec_open {W w : World} {db : Nat} {on : Bool} {fs : List Fil} {p off : Nat} {c : Int} {L : List HProp} (h : Sat W (Dec db on fs p off c :: L) w) : ∃ q : Value × Nat, Sat W (Blk db [q.1, .int .i64 ((off : Nat) : Int), ptrv q.2, .bool on] 89 :: Blk q.2 [.int .u32 c] 99 :: Ptrs q.1 (fs.map Prod.fst) :: (filesL fs p ++ L)) w := by
  obtain ⟨q, h⟩ := h.ex
  exact ⟨q, h.sep⟩
theorem dec_mk {W w : World} {db cb : Nat} {v : Value} {on : Bool} {fs : List Fil} {p off : Nat} {c : Int} {L : List HProp} (h : Sat W (Blk db [v, .int .i64 ((off : Nat) : Int), ptrv cb, .bool on] 89 :: Blk cb [.int .u32 c] 99 :: Ptrs v (fs.map Prod.fst) :: (filesL fs p ++ L)) w) : Sat W (Dec db on fs p off c :: L) w := Sat.ex_mk (v, cb) (Sat.sep_mk h)
theorem own_rd {W w : World} {e : TypeId} {v : Value} {l : List UInt8} {L : List HProp} (h : Sat W (Own e 1 v l.length (byt l) :: L) w) : Rd (Own e 1 v l.length (byt l)) 1 bcf v l := by
  rcases h.own with ⟨rfl, h0, h1, h2⟩ | ⟨b, cap, sp, rfl, h1, h2, h3, h4, h5⟩
  · exact .inr ⟨List.eq_nil_of_length_eq_zero h0, _, _, rfl⟩
  · refine .inl ⟨b, 0, cap, rfl, fun w2 hw i x hx => ?_⟩
    obtain ⟨r, s, hlt, q, hq⟩ := hw
    cases q with
    | none => cases hq.1
    | some q =>
      obtain ⟨b', c', sp'⟩ := q
      obtain ⟨s1, s2, q1, q2, q3, ⟨hv, k2, k3, k4, k5⟩, t1, t2, p1, p2, p3, hB, -⟩ := hq
      simp only [Value.slice.injEq, Option.some.injEq, Addr.mk.injEq] at hv
      obtain ⟨⟨rfl, -⟩, -, rfl⟩ := hv
      have hb : Holds (Blk b (byt l ++ sp') e) w2 := ⟨r, t1, fun b hb => hlt b (hb.imp id (fun x => q2 b (p1 b x))), hB⟩
      have hr : w2.rangeAt b 0 (byt l) := hb.cell_range (by simp)
      intro j u hj
      have hj0 : j = 0 := by
        have := (List.getElem?_eq_some_iff.1 hj).1
        simp [bcf] at this; omega
      subst hj0
      have e1 : u = .int .u8 (x.toNat : Int) := by simpa [bcf] using hj.symm
      have := hr (i * 1) u (by rw [Nat.mul_one, byt_at hx, e1])
      simpa using this
set_option maxRecDepth 100000 in
set_option maxHeartbeats 2000000 in
theorem dr_rec (db fb rb : Nat) (ep : Addr) (on : Bool) (bs : List UInt8) (fs : List Fil) (p : Nat) (c : Int) (hbs : bs.length ≤ 4294967296) (fds : List Fld) (tx cx : Int) (d more : List UInt8) (hfin : fds.foldl appF (none, none, []) = (some tx, some cx, d)) (hok : ∀ x ∈ fds, x.ok) (hn0 : 0 < (encF fds).length) (hn2 : (encF fds).length ≤ 2000000) (hdrop : bs.drop p = leN ((lfN (encF fds).length : Nat) : Int) 8 ++ (encF fds ++ (List.replicate (padn (encF fds).length) 0 ++ more))) (hcx : tx ≠ 4 → cx = crcWrite c d) (hd : d.length ≤ 4294967296) : Does Tryd.prog 75 [.pointer (some ⟨db, 0, none⟩), .pointer (some ⟨rb, 0, none⟩)] [Dec db on ((fb, bs) :: fs) p p c, Rec rb none none [], Cel 0 0 (.iface 123 (.pointer (some ep)))] (fun v L => v = .nilIface ∧ L = [Dec db on ((fb, bs) :: fs) (p + (8 + (encF fds).length + padn (encF fds).length)) (p + (8 + (encF fds).length + padn (encF fds).length)) (if tx = 4 then c else crcWrite c d), Rec rb (some tx) (some cx) d, Cel 0 0 (.iface 123 (.pointer (some ep)))]) := by
  have hL := congrArg List.length hdrop
  simp only [List.length_drop, List.length_append, leN_len, List.length_replicate] at hL
  have hpl := padn_lt (encF fds).length
  have h8 : le8 ((bs.drop p).take 8) = ((lfN (encF fds).length : Nat) : Int) := by rw [hdrop, List.take_left' (leN_len _ _), le8_leN (by omega) (by have := lfN_lt (n := (encF fds).length) (by omega); omega)]
  have hX : ((bs.drop (p + 8)).take ((encF fds).length + padn (encF fds).length)) = encF fds ++ List.replicate (padn (encF fds).length) 0 := by
    have e : bs.drop (p + 8) = (bs.drop p).drop 8 := by rw [List.drop_drop]
    rw [e, hdrop, List.drop_left' (leN_len _ _), ← List.append_assoc]
    exact List.take_left' (by rw [List.length_append, List.length_replicate])
  have hl0 : (IntKind.wrap .i64 ((lfN (encF fds).length : Nat) : Int)) ≠ 0 := by
    by_cases hp0 : padn (encF fds).length = 0
    · rw [show lfN (encF fds).length = (encF fds).length from by unfold lfN; rw [if_pos hp0], i64_id (by omega) (by omega)]; omega
    · have := i64_hi (lfN_hi (n := (encF fds).length) (by omega) hp0) (by have := lfN_lt (n := (encF fds).length) (by omega); omega)
      omega
  refine Does.enterN 171 Tryd.func75 rfl rfl rfl fun W F => ?_
  show WPc _ _ _ _ _ [(0, .pointer (some ⟨db, 0, none⟩)), (1, .pointer (some ⟨rb, 0, none⟩))] (Dec db on ((fb, bs) :: fs) p p c :: Rec rb none none [] :: Cel 0 0 (.iface 123 (.pointer (some ep))) :: F)
  refine WPc.seq ?_
  refine WPc.open (fun w h => dec_open h) ?_
  rintro ⟨bv, cb⟩
  show WPc _ _ _ _ _ _ (Blk db [bv, .int .i64 (((p : Nat) : Int)), .pointer (some ⟨cb, 0, none⟩), .bool (on)] 89 :: Blk cb [.int .u32 (c)] 99 :: Ptrs bv (fb :: (fs).map Prod.fst) :: Rdr fb bs p :: Kds (fun y : Fil => Rdr y.1 y.2 0) (fs) :: Rec rb none none [] :: Cel 0 0 (.iface 123 (.pointer (some ep))) :: F)
  refine WPc.perm pl2 ?_
  refine WPc.open (fun w h => ptrs_open h) ?_
  rintro ⟨qb, qo, qc, qC, qT⟩
  refine WPc.pure (fun hq => ?_)
  obtain ⟨rfl, hqc, hqC⟩ := hq
  dsimp only at hqc hqC
  have hql : (fb :: (fs).map Prod.fst).length = (fs).length + 1 := by simp
  show WPc _ _ _ _ _ _ (Ro (Blk qb qC qT) :: Blk db [.slice (some ⟨qb, qo, none⟩) ((fb :: (fs).map Prod.fst).length) qc, .int .i64 (((p : Nat) : Int)), .pointer (some ⟨cb, 0, none⟩), .bool (on)] 89 :: Blk cb [.int .u32 (c)] 99 :: Rdr fb bs p :: Kds (fun y : Fil => Rdr y.1 y.2 0) (fs) :: Rec rb none none [] :: Cel 0 0 (.iface 123 (.pointer (some ep))) :: F)
  refine WPc.region ?_
  refine WP.eff rfl rfl rfl (Eff.box (C := [.pointer (some ⟨db, 0, none⟩)]) rfl rfl rfl) ?_
  rintro _ _ ⟨b1, rfl, rfl⟩
  refine WP.val rfl rfl rfl (Val.assign rfl rfl) ?_
  refine WP.nil ?_
  refine Out.next ?_
  refine WPc.seq ?_
  refine WPc.seq ?_
  refine WPc.region ?_
  refine WP.val rfl rfl rfl (Val.load rfl Ty.sc83 rfl (fun w h => h.cell 0 rfl rfl)) ?_
  refine WP.val rfl rfl rfl (Val.nilCheck rfl rfl) ?_
  refine WP.val rfl rfl rfl (Val.fieldAddr (j := 0) rfl Ty.fo89_1 rfl rfl) ?_
  refine WP.val rfl rfl rfl (Val.load rfl Ty.sc80 rfl (fun w h => h.cell 2 rfl rfl)) ?_
  refine WP.val rfl rfl rfl (Val.len rfl Ty.sl80 rfl) ?_
  refine WP.val rfl rfl rfl (Val.eql rfl rfl rfl) ?_
  refine WP.nil ?_
  refine Out.next ?_
  refine WPc.ifP rfl (fun h1 => ?_) (fun h1 => ?_)
  · skip
    have h1 : ((((fb :: (fs).map Prod.fst).length : Nat) : Int) = (0 : Int)) := h1
    exfalso; omega
  · skip
    have h1 : ¬ ((((fb :: (fs).map Prod.fst).length : Nat) : Int) = (0 : Int)) := h1
    refine WPc.skip ?_
    refine Out.next ?_
    refine WPc.seq ?_
    refine WPc.region ?_
    refine WP.val rfl rfl rfl (Val.load rfl Ty.sc83 rfl (fun w h => h.cell 0 rfl rfl)) ?_
    refine WP.val rfl rfl rfl (Val.nilCheck rfl rfl) ?_
    refine WP.val rfl rfl rfl (Val.fieldAddr (j := 0) rfl Ty.fo89_1 rfl rfl) ?_
    refine WP.val rfl rfl rfl (Val.load rfl Ty.sc80 rfl (fun w h => h.cell 2 rfl rfl)) ?_
    refine WP.val rfl rfl rfl (Val.indexAddr (j := 0) (q := qo + 0) rfl Ty.sl80 rfl rfl (by omega) (by omega) (by omega)) ?_
    refine WP.val rfl rfl rfl (Val.load (v := .pointer (some ⟨fb, 0, none⟩)) rfl Ty.sc81 rfl (fun w h => h.cellRo 1 rfl (ptrs_head hqC))) ?_
    refine WP.val rfl rfl rfl (Val.assign rfl rfl) ?_
    refine WP.nil ?_
    refine Out.next ?_
    refine WPc.seq ?_
    refine WPc.region ?_
    refine WP.val rfl rfl rfl (Val.move rfl rfl) ?_
    refine WP.val rfl rfl rfl (Val.iface rfl rfl Ty.ni81) ?_
    refine WP.perm pl4 ?_
    refine WP.eff rfl rfl rfl (Eff.call rfl rfl Tryd.call76 (ri_full fb bs p (by omega) hbs)) ?_
    rintro _ _ ⟨_, ⟨rfl, rfl⟩, rfl⟩
    show WP _ _ _ _ _ _ _ (Rdr fb bs (p + 8) :: Blk b1 [.pointer (some ⟨db, 0, none⟩)] 83 :: Ro (Blk qb qC qT) :: Blk db [.slice (some ⟨qb, qo, none⟩) ((fb :: (fs).map Prod.fst).length) qc, .int .i64 (((p : Nat) : Int)), .pointer (some ⟨cb, 0, none⟩), .bool (on)] 89 :: Blk cb [.int .u32 (c)] 99 :: Kds (fun y : Fil => Rdr y.1 y.2 0) (fs) :: Rec rb none none [] :: Cel 0 0 (.iface 123 (.pointer (some ep))) :: F)
    refine WP.val rfl rfl rfl (Val.move rfl rfl) ?_
    refine WP.val rfl rfl rfl (Val.extract rfl rfl rfl) ?_
    refine WP.val rfl rfl rfl (Val.extract rfl rfl rfl) ?_
    refine WP.val rfl rfl rfl (Val.assign rfl rfl) ?_
    refine WP.val rfl rfl rfl (Val.assign rfl rfl) ?_
    refine WP.nil ?_
    refine Out.next ?_
    refine WPc.seq ?_
    refine WPc.seq ?_
    refine WPc.know 6 (.int .i64 (IntKind.wrap .i64 ((lfN (encF fds).length : Nat) : Int))) rfl (by rw [h8]; rfl) ?_
    refine WPc.region ?_
    refine WP.val rfl rfl rfl (Val.move rfl rfl) ?_
    refine WP.val rfl rfl rfl (Val.load (v := .iface 123 (.pointer (some ep))) rfl Ty.sc61 rfl (fun w h => (h.at 7 rfl).cel)) ?_
    refine WP.val rfl rfl rfl (Val.eqNilSome rfl Ty.if61 rfl rfl) ?_
    refine WP.val rfl rfl rfl (Val.move rfl rfl) ?_
    refine WP.valG rfl rfl rfl rfl rfl rfl rfl (Val.move rfl rfl) ?_
    refine WP.valG rfl rfl rfl rfl rfl rfl rfl (Val.nilI rfl Ty.if61 rfl) ?_
    refine WP.valG rfl rfl rfl rfl rfl rfl rfl (Val.move rfl rfl) ?_
    refine WP.valG rfl rfl rfl rfl rfl rfl rfl (Val.move rfl rfl) ?_
    refine WP.valG rfl rfl rfl rfl rfl rfl rfl (Val.eql rfl rfl rfl) ?_
    refine WP.valG rfl rfl rfl rfl rfl rfl rfl (Val.pickT rfl rfl rfl) ?_
    refine WP.val rfl rfl rfl (Val.pickF rfl rfl rfl) ?_
    refine WP.nil ?_
    refine Out.next ?_
    refine WPc.ifP rfl (fun h2 => ?_) (fun h2 => ?_)
    · skip
      have h2 : ((IntKind.wrap .i64 ((lfN (encF fds).length : Nat) : Int)) = (0 : Int)) := h2
      exfalso; omega
    · skip
      have h2 : ¬ ((IntKind.wrap .i64 ((lfN (encF fds).length : Nat) : Int)) = (0 : Int)) := h2
      refine WPc.skip ?_
      refine Out.next ?_
      refine WPc.seq ?_
      refine WPc.seq ?_
      refine WPc.region ?_
      refine WP.val rfl rfl rfl (Val.move rfl rfl) ?_
      refine WP.val rfl rfl rfl (Val.nilIn rfl Ty.if61 rfl) ?_
      refine WP.nil ?_
      refine Out.next ?_
      refine WPc.condF rfl rfl ?_
      refine WPc.skip ?_
      refine Out.next ?_
      refine WPc.seq ?_
      refine WPc.region ?_
      refine WP.val rfl rfl rfl (Val.move rfl rfl) ?_
      refine WP.eff rfl rfl rfl (Eff.call rfl rfl Tryd.call77 (dfs_spec (encF fds).length (by omega))) ?_
      rintro _ _ ⟨_, ⟨rfl, rfl⟩, rfl⟩
      show WP _ _ _ _ _ _ _ (Rdr fb bs (p + 8) :: Blk b1 [.pointer (some ⟨db, 0, none⟩)] 83 :: Ro (Blk qb qC qT) :: Blk db [.slice (some ⟨qb, qo, none⟩) ((fb :: (fs).map Prod.fst).length) qc, .int .i64 (((p : Nat) : Int)), .pointer (some ⟨cb, 0, none⟩), .bool (on)] 89 :: Blk cb [.int .u32 (c)] 99 :: Kds (fun y : Fil => Rdr y.1 y.2 0) (fs) :: Rec rb none none [] :: Cel 0 0 (.iface 123 (.pointer (some ep))) :: F)
      refine WP.val rfl rfl rfl (Val.move rfl rfl) ?_
      refine WP.val rfl rfl rfl (Val.extract rfl rfl rfl) ?_
      refine WP.val rfl rfl rfl (Val.extract rfl rfl rfl) ?_
      refine WP.eff rfl rfl rfl (Eff.alloc rfl Ty.z2) ?_
      rintro _ _ ⟨b2, rfl, rfl⟩
      refine WP.eff rfl rfl rfl (Eff.alloc rfl Ty.z2) ?_
      rintro _ _ ⟨b3, rfl, rfl⟩
      refine WP.perm pl1 ?_
      refine WP.eff0 rfl rfl (Eff.store rfl Ty.sc2 rfl rfl rfl (by simp) st0) ?_
      rintro _ _ rfl
      refine WP.perm pl1 ?_
      refine WP.eff0 rfl rfl (Eff.store rfl Ty.sc2 rfl rfl rfl (by simp) st0) ?_
      rintro _ _ rfl
      refine WP.nil ?_
      refine Out.next ?_
      refine WPc.seq ?_
      refine WPD.start (Sat W [Blk b1 [.pointer (some ⟨db, 0, none⟩)] 83, Blk db [.slice (some ⟨qb, qo, none⟩) ((fb :: (fs).map Prod.fst).length) qc, .int .i64 (((p : Nat) : Int)), .pointer (some ⟨cb, 0, none⟩), .bool (on)] 89, Blk b3 [.int .i64 (((padn (encF fds).length : Nat) : Int))] 2]) Ty.mixed ?_
      refine WPD.takeM 0 rfl rfl rfl rfl (by kernel_rfl) (by kernel_rfl) (by kernel_rfl) (by kernel_rfl) (fun _ _ _ h => h) (fun w h => (((h.perm pl5).perm pl4)).dropEnd (L := [_, _, _])) (Val.move rfl rfl) ?_
      refine WPD.take 3 rfl rfl rfl rfl (by kernel_rfl) (by kernel_rfl) (by kernel_rfl) (by kernel_rfl) (fun _ _ _ h => h) (by kernel_rfl) (fun w h => (((h.perm pl5).perm pl4)).dropEnd (L := [_, _, _])) (Val.load rfl Ty.sc83 rfl (fun w h => h.cell 0 rfl rfl)) ?_
      refine WPD.takeM 4 rfl rfl rfl rfl (by kernel_rfl) (by kernel_rfl) (by kernel_rfl) (by kernel_rfl) (fun _ _ _ h => h) (fun w h => (((h.perm pl5).perm pl4)).dropEnd (L := [_, _, _])) (Val.nilCheck rfl rfl) ?_
      refine WPD.takeM 5 rfl rfl rfl rfl (by kernel_rfl) (by kernel_rfl) (by kernel_rfl) (by kernel_rfl) (fun _ _ _ h => h) (fun w h => (((h.perm pl5).perm pl4)).dropEnd (L := [_, _, _])) (Val.fieldAddr (j := 1) rfl Ty.fo89_2 rfl rfl) ?_
      refine WPD.take 6 rfl rfl rfl rfl (by kernel_rfl) (by kernel_rfl) (by kernel_rfl) (by kernel_rfl) (fun _ _ _ h => h) (by kernel_rfl) (fun w h => (((h.perm pl5).perm pl4)).dropEnd (L := [_, _, _])) (Val.load rfl Ty.sc2 rfl (fun w h => h.cell 1 rfl rfl)) ?_
      refine WPD.take 8 rfl rfl rfl rfl (by kernel_rfl) (by kernel_rfl) (by kernel_rfl) (by kernel_rfl) (fun _ _ _ h => h) (by kernel_rfl) (fun w h => (((h.perm pl5).perm pl4)).dropEnd (L := [_, _, _])) (Val.load rfl Ty.sc2 rfl (fun w h => h.cell 2 rfl rfl)) ?_
      refine WPD.perm pl2 ?_
      refine WPD.step 1 (by kernel_rfl) rfl rfl rfl rfl (Eff.call rfl rfl Tryd.call70 (fi_spec fb bs (p + 8))) ?_
      rintro _ _ ⟨_, ⟨rfl, rfl⟩, rfl⟩
      refine ⟨(fun w h => ((((h.perm pl1).perm pl5).perm pl4)).dropEnd (L := [_, _, _])), ?_⟩
      show WPD _ _ _ _ _ _ _ _ _ (Rdr fb bs (p + 8) :: Blk b3 [.int .i64 (((padn (encF fds).length : Nat) : Int))] 2 :: Blk b2 [.int .i64 ((((encF fds).length : Nat) : Int))] 2 :: Blk b1 [.pointer (some ⟨db, 0, none⟩)] 83 :: Ro (Blk qb qC qT) :: Blk db [.slice (some ⟨qb, qo, none⟩) ((fb :: (fs).map Prod.fst).length) qc, .int .i64 (((p : Nat) : Int)), .pointer (some ⟨cb, 0, none⟩), .bool (on)] 89 :: Blk cb [.int .u32 (c)] 99 :: Kds (fun y : Fil => Rdr y.1 y.2 0) (fs) :: Rec rb none none [] :: Cel 0 0 (.iface 123 (.pointer (some ep))) :: F)
      refine WPD.step 2 (by kernel_rfl) rfl rfl rfl rfl (Eff.call rfl rfl Tryd.call78 (size_spec bs.length)) ?_
      rintro _ _ ⟨_, ⟨rfl, rfl⟩, rfl⟩
      refine ⟨(fun w h => ((((h.perm pl1).perm pl5).perm pl4)).dropEnd (L := [_, _, _])), ?_⟩
      show WPD _ _ _ _ _ _ _ _ _ (Rdr fb bs (p + 8) :: Blk b3 [.int .i64 (((padn (encF fds).length : Nat) : Int))] 2 :: Blk b2 [.int .i64 ((((encF fds).length : Nat) : Int))] 2 :: Blk b1 [.pointer (some ⟨db, 0, none⟩)] 83 :: Ro (Blk qb qC qT) :: Blk db [.slice (some ⟨qb, qo, none⟩) ((fb :: (fs).map Prod.fst).length) qc, .int .i64 (((p : Nat) : Int)), .pointer (some ⟨cb, 0, none⟩), .bool (on)] 89 :: Blk cb [.int .u32 (c)] 99 :: Kds (fun y : Fil => Rdr y.1 y.2 0) (fs) :: Rec rb none none [] :: Cel 0 0 (.iface 123 (.pointer (some ep))) :: F)
      refine WPD.takeM 7 rfl rfl rfl rfl (by kernel_rfl) (by kernel_rfl) (by kernel_rfl) (by kernel_rfl) (fun _ _ _ h => h) (fun w h => ((((h.perm pl1).perm pl5).perm pl4)).dropEnd (L := [_, _, _])) (Val.sub (z := ((bs.length - p : Nat) : Int)) rfl rfl rfl ((w64 (by omega) (by omega)).trans (by omega))) ?_
      refine WPD.takeM 9 rfl rfl rfl rfl (by kernel_rfl) (by kernel_rfl) (by kernel_rfl) (by kernel_rfl) (fun _ _ _ h => h) (fun w h => ((((h.perm pl1).perm pl5).perm pl4)).dropEnd (L := [_, _, _])) (Val.sub (z := (((bs.length - p) - (padn (encF fds).length) : Nat) : Int)) rfl rfl rfl ((w64 (by omega) (by omega)).trans (by omega))) ?_
      refine WPD.takeM 10 rfl rfl rfl rfl (by kernel_rfl) (by kernel_rfl) (by kernel_rfl) (by kernel_rfl) (fun _ _ _ h => h) (fun w h => ((((h.perm pl1).perm pl5).perm pl4)).dropEnd (L := [_, _, _])) (Val.assign rfl rfl) ?_
      refine WPD.done (by kernel_rfl) ?_
      refine Out.next ?_
      refine WPc.seq ?_
      refine WPc.seq ?_
      refine WPc.region ?_
      refine WP.val rfl rfl rfl (Val.load rfl Ty.sc2 rfl (fun w h => h.cell 2 rfl rfl)) ?_
      refine WP.val rfl rfl rfl (Val.move rfl rfl) ?_
      refine WP.val rfl rfl rfl (Val.gtr rfl rfl rfl) ?_
      refine WP.nil ?_
      refine Out.next ?_
      refine WPc.ifP rfl (fun h3 => ?_) (fun h3 => ?_)
      · skip
        have h3 : ((((bs.length - p) - (padn (encF fds).length) : Nat) : Int) < (((encF fds).length : Nat) : Int)) := h3
        exfalso; omega
      · skip
        have h3 : ¬ ((((bs.length - p) - (padn (encF fds).length) : Nat) : Int) < (((encF fds).length : Nat) : Int)) := h3
        refine WPc.skip ?_
        refine Out.next ?_
        refine WPc.seq ?_
        refine WPc.region ?_
        refine WP.val rfl rfl rfl (Val.load rfl Ty.sc2 rfl (fun w h => h.cell 2 rfl rfl)) ?_
        refine WP.val rfl rfl rfl (Val.load rfl Ty.sc2 rfl (fun w h => h.cell 1 rfl rfl)) ?_
        refine WP.val rfl rfl rfl (Val.add (z := ((((encF fds).length) + (padn (encF fds).length) : Nat) : Int)) rfl rfl rfl ((w64 (by omega) (by omega)).trans (by omega))) ?_
        refine WP.eff rfl rfl rfl (Eff.makeSlice (m := ((encF fds).length) + (padn (encF fds).length)) (c := ((encF fds).length) + (padn (encF fds).length)) (z := [.int .u8 0]) rfl Ty.sl40 Ty.z5 rfl rfl rfl rfl rfl (by omega) (by omega) (by omega)) ?_
        rintro _ _ ⟨b4, rfl, rfl⟩
        refine WP.val rfl rfl rfl (Val.assign rfl rfl) ?_
        refine WP.nil ?_
        refine Out.next ?_
        refine WPc.seq ?_
        refine WPc.seq ?_
        refine WPc.region ?_
        refine WP.val rfl rfl rfl (Val.move rfl rfl) ?_
        refine WP.val rfl rfl rfl (Val.iface rfl rfl Ty.ni81) ?_
        refine WP.val rfl rfl rfl (Val.move rfl rfl) ?_
        refine WP.perm pl1 ?_
        refine WP.eff rfl rfl rfl (Eff.call rfl rfl Tryd.call79 (rf_full fb b4 bs (p + 8) ((encF fds).length + padn (encF fds).length) (List.replicate ((encF fds).length + padn (encF fds).length) [.int .u8 0]).flatten 5 (by simp) (by omega) (by omega) hbs)) ?_
        rintro _ _ ⟨_, ⟨rfl, rfl⟩, rfl⟩
        show WP _ _ _ _ _ _ _ (Rdr fb bs (p + 8 + ((encF fds).length + padn (encF fds).length)) :: Blk b4 (byt ((bs.drop (p + 8)).take ((encF fds).length + padn (encF fds).length))) 5 :: Blk b3 [.int .i64 (((padn (encF fds).length : Nat) : Int))] 2 :: Blk b2 [.int .i64 ((((encF fds).length : Nat) : Int))] 2 :: Blk b1 [.pointer (some ⟨db, 0, none⟩)] 83 :: Ro (Blk qb qC qT) :: Blk db [.slice (some ⟨qb, qo, none⟩) ((fb :: (fs).map Prod.fst).length) qc, .int .i64 (((p : Nat) : Int)), .pointer (some ⟨cb, 0, none⟩), .bool (on)] 89 :: Blk cb [.int .u32 (c)] 99 :: Kds (fun y : Fil => Rdr y.1 y.2 0) (fs) :: Rec rb none none [] :: Cel 0 0 (.iface 123 (.pointer (some ep))) :: F)
        refine WP.val rfl rfl rfl (Val.move rfl rfl) ?_
        refine WP.val rfl rfl rfl (Val.extract rfl rfl rfl) ?_
        refine WP.val rfl rfl rfl (Val.extract rfl rfl rfl) ?_
        refine WP.val rfl rfl rfl (Val.assign rfl rfl) ?_
        refine WP.nil ?_
        refine Out.next ?_
        refine WPc.seq ?_
        refine WPc.region ?_
        refine WP.val rfl rfl rfl (Val.move rfl rfl) ?_
        refine WP.val rfl rfl rfl (Val.nilIn rfl Ty.if61 rfl) ?_
        refine WP.nil ?_
        refine Out.next ?_
        refine WPc.condF rfl rfl ?_
        refine WPc.skip ?_
        refine Out.next ?_
        refine WPc.seq ?_
        refine WPc.seq ?_
        refine WPc.region ?_
        refine WP.val rfl rfl rfl (Val.move rfl rfl) ?_
        refine WP.val rfl rfl rfl (Val.load rfl Ty.sc2 rfl (fun w h => h.cell 3 rfl rfl)) ?_
        refine WP.val rfl rfl rfl (Val.slice (lo := 0) (hi := (encF fds).length) (j := 0) (vlo := none) (vhi := some (.i64, (((encF fds).length : Nat) : Int))) rfl Ty.sl40 rfl rfl rfl (by simp [bnd]) (by simp [bnd]; try omega) (by omega) (by omega) (by omega) (by simp)) ?_
        refine WP.val rfl rfl rfl (Val.move rfl rfl) ?_
        refine WP.val rfl rfl rfl (Val.iface rfl rfl Ty.ni55) ?_
        refine WP.perm pl1 ?_
        refine WP.perm pl9 ?_
        refine WP.eff rfl rfl rfl (Eff.call rfl rfl Tryd.call80 (unm_spec (Blk b4 (byt ((bs.drop (p + 8)).take ((encF fds).length + padn (encF fds).length))) 5) rb fds none none [] (some tx, some cx, d) hfin hok b4 0 (((encF fds).length) + (padn (encF fds).length)) (fun w h => h.cell_range (by rw [hX]; simp [byt])) (by omega) (by omega))) ?_
        rintro _ _ ⟨_, ⟨rfl, rfl⟩, rfl⟩
        show WP _ _ _ _ _ _ _ (Rec rb (some tx) (some cx) d :: Blk b4 (byt ((bs.drop (p + 8)).take ((encF fds).length + padn (encF fds).length))) 5 :: Rdr fb bs (p + 8 + ((encF fds).length + padn (encF fds).length)) :: Blk b3 [.int .i64 (((padn (encF fds).length : Nat) : Int))] 2 :: Blk b2 [.int .i64 ((((encF fds).length : Nat) : Int))] 2 :: Blk b1 [.pointer (some ⟨db, 0, none⟩)] 83 :: Ro (Blk qb qC qT) :: Blk db [.slice (some ⟨qb, qo, none⟩) ((fb :: (fs).map Prod.fst).length) qc, .int .i64 (((p : Nat) : Int)), .pointer (some ⟨cb, 0, none⟩), .bool (on)] 89 :: Blk cb [.int .u32 (c)] 99 :: Kds (fun y : Fil => Rdr y.1 y.2 0) (fs) :: Cel 0 0 (.iface 123 (.pointer (some ep))) :: F)
        refine WP.val rfl rfl rfl (Val.assign rfl rfl) ?_
        refine WP.nil ?_
        refine Out.next ?_
        refine WPc.seq ?_
        refine WPc.region ?_
        refine WP.val rfl rfl rfl (Val.move rfl rfl) ?_
        refine WP.val rfl rfl rfl (Val.nilIn rfl Ty.if61 rfl) ?_
        refine WP.nil ?_
        refine Out.next ?_
        refine WPc.condF rfl rfl ?_
        refine WPc.skip ?_
        refine Out.next ?_
        refine WPc.seq ?_
        refine WPc.seq ?_
        refine WPc.region ?_
        refine WP.val rfl rfl rfl (Val.move rfl rfl) ?_
        refine WP.eff rfl rfl rfl (Eff.call rfl rfl Tryd.call22 (gty_spec rb tx cx d)) ?_
        rintro _ _ ⟨_, ⟨rfl, rfl⟩, rfl⟩
        show WP _ _ _ _ _ _ _ (Rec rb (some tx) (some cx) d :: Blk b4 (byt ((bs.drop (p + 8)).take ((encF fds).length + padn (encF fds).length))) 5 :: Rdr fb bs (p + 8 + ((encF fds).length + padn (encF fds).length)) :: Blk b3 [.int .i64 (((padn (encF fds).length : Nat) : Int))] 2 :: Blk b2 [.int .i64 ((((encF fds).length : Nat) : Int))] 2 :: Blk b1 [.pointer (some ⟨db, 0, none⟩)] 83 :: Ro (Blk qb qC qT) :: Blk db [.slice (some ⟨qb, qo, none⟩) ((fb :: (fs).map Prod.fst).length) qc, .int .i64 (((p : Nat) : Int)), .pointer (some ⟨cb, 0, none⟩), .bool (on)] 89 :: Blk cb [.int .u32 (c)] 99 :: Kds (fun y : Fil => Rdr y.1 y.2 0) (fs) :: Cel 0 0 (.iface 123 (.pointer (some ep))) :: F)
        refine WP.val rfl rfl rfl (Val.neq rfl rfl rfl) ?_
        refine WP.nil ?_
        refine Out.next ?_
        refine WPc.ifP rfl (fun h4 => ?_) (fun h4 => ?_)
        · skip
          have h4 : (tx ≠ (4 : Int)) := h4
          refine WPc.seq ?_
          refine WPc.open (fun w h => rec_open h) ?_
          rintro ⟨tv5, cv5, dv5⟩
          show WPc _ _ _ _ _ _ (Blk rb [tv5, cv5, dv5] 59 :: PtrO 2 tv5 ((some (tx)).map (Value.int .i64)) :: PtrO 22 cv5 ((some (cx)).map (Value.int .u32)) :: Own 5 1 dv5 ((d).length) (byt (d)) :: Blk b4 (byt ((bs.drop (p + 8)).take ((encF fds).length + padn (encF fds).length))) 5 :: Rdr fb bs (p + 8 + ((encF fds).length + padn (encF fds).length)) :: Blk b3 [.int .i64 (((padn (encF fds).length : Nat) : Int))] 2 :: Blk b2 [.int .i64 ((((encF fds).length : Nat) : Int))] 2 :: Blk b1 [.pointer (some ⟨db, 0, none⟩)] 83 :: Ro (Blk qb qC qT) :: Blk db [.slice (some ⟨qb, qo, none⟩) ((fb :: (fs).map Prod.fst).length) qc, .int .i64 (((p : Nat) : Int)), .pointer (some ⟨cb, 0, none⟩), .bool (on)] 89 :: Blk cb [.int .u32 (c)] 99 :: Kds (fun y : Fil => Rdr y.1 y.2 0) (fs) :: Cel 0 0 (.iface 123 (.pointer (some ep))) :: F)
          refine WPc.perm pl1 ?_
          refine WPc.open (fun w h => h.ptrSome) ?_
          rintro tb5
          refine WPc.pure (fun hvtb5 => ?_)
          subst hvtb5
          show WPc _ _ _ _ _ _ (Blk tb5 [.int .i64 (tx)] 2 :: Blk rb [.pointer (some ⟨tb5, 0, none⟩), cv5, dv5] 59 :: PtrO 22 cv5 ((some (cx)).map (Value.int .u32)) :: Own 5 1 dv5 ((d).length) (byt (d)) :: Blk b4 (byt ((bs.drop (p + 8)).take ((encF fds).length + padn (encF fds).length))) 5 :: Rdr fb bs (p + 8 + ((encF fds).length + padn (encF fds).length)) :: Blk b3 [.int .i64 (((padn (encF fds).length : Nat) : Int))] 2 :: Blk b2 [.int .i64 ((((encF fds).length : Nat) : Int))] 2 :: Blk b1 [.pointer (some ⟨db, 0, none⟩)] 83 :: Ro (Blk qb qC qT) :: Blk db [.slice (some ⟨qb, qo, none⟩) ((fb :: (fs).map Prod.fst).length) qc, .int .i64 (((p : Nat) : Int)), .pointer (some ⟨cb, 0, none⟩), .bool (on)] 89 :: Blk cb [.int .u32 (c)] 99 :: Kds (fun y : Fil => Rdr y.1 y.2 0) (fs) :: Cel 0 0 (.iface 123 (.pointer (some ep))) :: F)
          refine WPc.perm pl2 ?_
          refine WPc.open (fun w h => h.ptrSome) ?_
          rintro xb5
          refine WPc.pure (fun hvxb5 => ?_)
          subst hvxb5
          show WPc _ _ _ _ _ _ (Blk xb5 [.int .u32 (cx)] 22 :: Blk tb5 [.int .i64 (tx)] 2 :: Blk rb [.pointer (some ⟨tb5, 0, none⟩), .pointer (some ⟨xb5, 0, none⟩), dv5] 59 :: Own 5 1 dv5 ((d).length) (byt (d)) :: Blk b4 (byt ((bs.drop (p + 8)).take ((encF fds).length + padn (encF fds).length))) 5 :: Rdr fb bs (p + 8 + ((encF fds).length + padn (encF fds).length)) :: Blk b3 [.int .i64 (((padn (encF fds).length : Nat) : Int))] 2 :: Blk b2 [.int .i64 ((((encF fds).length : Nat) : Int))] 2 :: Blk b1 [.pointer (some ⟨db, 0, none⟩)] 83 :: Ro (Blk qb qC qT) :: Blk db [.slice (some ⟨qb, qo, none⟩) ((fb :: (fs).map Prod.fst).length) qc, .int .i64 (((p : Nat) : Int)), .pointer (some ⟨cb, 0, none⟩), .bool (on)] 89 :: Blk cb [.int .u32 (c)] 99 :: Kds (fun y : Fil => Rdr y.1 y.2 0) (fs) :: Cel 0 0 (.iface 123 (.pointer (some ep))) :: F)
          refine WPc.perm pl3 ?_
          refine WPc.fact (fun w h => own_rd h) (fun hrd => ?_)
          refine WPD.start (Sat W (Own 5 1 dv5 ((d).length) (byt (d)) :: Blk xb5 [.int .u32 (cx)] 22 :: Blk tb5 [.int .i64 (tx)] 2 :: Blk rb [.pointer (some ⟨tb5, 0, none⟩), .pointer (some ⟨xb5, 0, none⟩), dv5] 59 :: Blk b4 (byt ((bs.drop (p + 8)).take ((encF fds).length + padn (encF fds).length))) 5 :: Rdr fb bs (p + 8 + ((encF fds).length + padn (encF fds).length)) :: Blk b3 [.int .i64 (((padn (encF fds).length : Nat) : Int))] 2 :: Blk b2 [.int .i64 ((((encF fds).length : Nat) : Int))] 2 :: Blk b1 [.pointer (some ⟨db, 0, none⟩)] 83 :: Ro (Blk qb qC qT) :: Blk db [.slice (some ⟨qb, qo, none⟩) ((fb :: (fs).map Prod.fst).length) qc, .int .i64 (((p : Nat) : Int)), .pointer (some ⟨cb, 0, none⟩), .bool (on)] 89 :: Blk cb [.int .u32 (c)] 99 :: Kds (fun y : Fil => Rdr y.1 y.2 0) (fs) :: Cel 0 0 (.iface 123 (.pointer (some ep))) :: F)) Ty.mixed ?_
          refine WPD.take 0 rfl rfl rfl rfl (by kernel_rfl) (by kernel_rfl) (by kernel_rfl) (by kernel_rfl) (fun _ _ _ h => h) (by kernel_rfl) (fun _ h => h) (Val.load rfl Ty.sc83 rfl (fun w h => h.cell 8 rfl rfl)) ?_
          refine WPD.takeM 1 rfl rfl rfl rfl (by kernel_rfl) (by kernel_rfl) (by kernel_rfl) (by kernel_rfl) (fun _ _ _ h => h) (fun _ h => h) (Val.nilCheck rfl rfl) ?_
          refine WPD.takeM 2 rfl rfl rfl rfl (by kernel_rfl) (by kernel_rfl) (by kernel_rfl) (by kernel_rfl) (fun _ _ _ h => h) (fun _ h => h) (Val.fieldAddr (j := 2) rfl Ty.fo89_3 rfl rfl) ?_
          refine WPD.take 3 rfl rfl rfl rfl (by kernel_rfl) (by kernel_rfl) (by kernel_rfl) (by kernel_rfl) (fun _ _ _ h => h) (by kernel_rfl) (fun _ h => h) (Val.load rfl Ty.sc84 rfl (fun w h => h.cell 10 rfl rfl)) ?_
          refine WPD.takeM 4 rfl rfl rfl rfl (by kernel_rfl) (by kernel_rfl) (by kernel_rfl) (by kernel_rfl) (fun _ _ _ h => h) (fun _ h => h) (Val.move rfl rfl) ?_
          refine WPD.takeM 5 rfl rfl rfl rfl (by kernel_rfl) (by kernel_rfl) (by kernel_rfl) (by kernel_rfl) (fun _ _ _ h => h) (fun _ h => h) (Val.nilCheck rfl rfl) ?_
          refine WPD.takeM 6 rfl rfl rfl rfl (by kernel_rfl) (by kernel_rfl) (by kernel_rfl) (by kernel_rfl) (fun _ _ _ h => h) (fun _ h => h) (Val.fieldAddr (j := 2) rfl Ty.fo59_2 rfl rfl) ?_
          refine WPD.take 7 rfl rfl rfl rfl (by kernel_rfl) (by kernel_rfl) (by kernel_rfl) (by kernel_rfl) (fun _ _ _ h => h) (by kernel_rfl) (fun _ h => h) (Val.load rfl Ty.sc40 rfl (fun w h => h.cell 3 rfl rfl)) ?_
          refine WPD.perm pl11 ?_
          refine WPD.stepC 8 (by kernel_rfl) rfl rfl rfl rfl (by kernel_rfl) (Eff.call rfl rfl Tryd.call39 (crc_spec (Own 5 1 dv5 ((d).length) (byt (d))) cb c d hd dv5 hrd)) ?_
          rintro _ _ ⟨_, ⟨kk, rfl, rfl⟩, rfl⟩
          refine ⟨(Sat W (Blk cb [.int .u32 ((crcWrite c d))] 99 :: Own 5 1 dv5 ((d).length) (byt (d)) :: Blk xb5 [.int .u32 (cx)] 22 :: Blk tb5 [.int .i64 (tx)] 2 :: Blk rb [.pointer (some ⟨tb5, 0, none⟩), .pointer (some ⟨xb5, 0, none⟩), dv5] 59 :: Blk b4 (byt ((bs.drop (p + 8)).take ((encF fds).length + padn (encF fds).length))) 5 :: Rdr fb bs (p + 8 + ((encF fds).length + padn (encF fds).length)) :: Blk b3 [.int .i64 (((padn (encF fds).length : Nat) : Int))] 2 :: Blk b2 [.int .i64 ((((encF fds).length : Nat) : Int))] 2 :: Blk b1 [.pointer (some ⟨db, 0, none⟩)] 83 :: Ro (Blk qb qC qT) :: Blk db [.slice (some ⟨qb, qo, none⟩) ((fb :: (fs).map Prod.fst).length) qc, .int .i64 (((p : Nat) : Int)), .pointer (some ⟨cb, 0, none⟩), .bool (on)] 89 :: Kds (fun y : Fil => Rdr y.1 y.2 0) (fs) :: Cel 0 0 (.iface 123 (.pointer (some ep))) :: F)), (fun _ h => h), ?_⟩
          show WPD _ _ _ _ _ _ _ _ _ (Blk cb [.int .u32 ((crcWrite c d))] 99 :: Own 5 1 dv5 ((d).length) (byt (d)) :: Blk xb5 [.int .u32 (cx)] 22 :: Blk tb5 [.int .i64 (tx)] 2 :: Blk rb [.pointer (some ⟨tb5, 0, none⟩), .pointer (some ⟨xb5, 0, none⟩), dv5] 59 :: Blk b4 (byt ((bs.drop (p + 8)).take ((encF fds).length + padn (encF fds).length))) 5 :: Rdr fb bs (p + 8 + ((encF fds).length + padn (encF fds).length)) :: Blk b3 [.int .i64 (((padn (encF fds).length : Nat) : Int))] 2 :: Blk b2 [.int .i64 ((((encF fds).length : Nat) : Int))] 2 :: Blk b1 [.pointer (some ⟨db, 0, none⟩)] 83 :: Ro (Blk qb qC qT) :: Blk db [.slice (some ⟨qb, qo, none⟩) ((fb :: (fs).map Prod.fst).length) qc, .int .i64 (((p : Nat) : Int)), .pointer (some ⟨cb, 0, none⟩), .bool (on)] 89 :: Kds (fun y : Fil => Rdr y.1 y.2 0) (fs) :: Cel 0 0 (.iface 123 (.pointer (some ep))) :: F)
          refine WPD.takeM 9 rfl rfl rfl rfl (by kernel_rfl) (by kernel_rfl) (by kernel_rfl) (by kernel_rfl) (fun _ _ _ h => h) (fun _ h => h) (Val.move rfl rfl) ?_
          refine WPD.takeM 10 rfl rfl rfl rfl (by kernel_rfl) (by kernel_rfl) (by kernel_rfl) (by kernel_rfl) (fun _ _ _ h => h) (fun _ h => h) (Val.extract rfl rfl rfl) ?_
          refine WPD.takeM 11 rfl rfl rfl rfl (by kernel_rfl) (by kernel_rfl) (by kernel_rfl) (by kernel_rfl) (fun _ _ _ h => h) (fun _ h => h) (Val.extract rfl rfl rfl) ?_
          refine WPD.takeM 12 rfl rfl rfl rfl (by kernel_rfl) (by kernel_rfl) (by kernel_rfl) (by kernel_rfl) (fun _ _ _ h => h) (fun _ h => h) (Val.assign rfl rfl) ?_
          refine WPD.takeM 13 rfl rfl rfl rfl (by kernel_rfl) (by kernel_rfl) (by kernel_rfl) (by kernel_rfl) (fun _ _ _ h => h) (fun _ h => h) (Val.assign rfl rfl) ?_
          refine WPD.done (by kernel_rfl) ?_
          refine Out.next ?_
          refine WPc.seq ?_
          refine WPc.seq ?_
          refine WPc.region ?_
          refine WP.val rfl rfl rfl (Val.move rfl rfl) ?_
          refine WP.val rfl rfl rfl (Val.nilIn rfl Ty.if61 rfl) ?_
          refine WP.nil ?_
          refine Out.next ?_
          refine WPc.condF rfl rfl ?_
          refine WPc.skip ?_
          refine Out.next ?_
          refine WPc.seq ?_
          refine WPc.perm pl3 ?_
          refine WPc.conv (fun w h => Sat.ptrMk h) ?_
          refine WPc.perm pl3 ?_
          refine WPc.conv (fun w h => Sat.ptrMk h) ?_
          refine WPc.perm pl3 ?_
          refine WPc.perm pl1 ?_
          refine WPc.perm pl2 ?_
          refine WPc.perm pl4 ?_
          refine WPc.conv (fun w h => rec_mk (t := some tx) (c := some cx) (d := d) h) ?_
          show WPc _ _ _ _ _ _ (Rec rb (some tx) (some cx) d :: Blk cb [.int .u32 ((crcWrite c d))] 99 :: Blk b4 (byt ((bs.drop (p + 8)).take ((encF fds).length + padn (encF fds).length))) 5 :: Rdr fb bs (p + 8 + ((encF fds).length + padn (encF fds).length)) :: Blk b3 [.int .i64 (((padn (encF fds).length : Nat) : Int))] 2 :: Blk b2 [.int .i64 ((((encF fds).length : Nat) : Int))] 2 :: Blk b1 [.pointer (some ⟨db, 0, none⟩)] 83 :: Ro (Blk qb qC qT) :: Blk db [.slice (some ⟨qb, qo, none⟩) ((fb :: (fs).map Prod.fst).length) qc, .int .i64 (((p : Nat) : Int)), .pointer (some ⟨cb, 0, none⟩), .bool (on)] 89 :: Kds (fun y : Fil => Rdr y.1 y.2 0) (fs) :: Cel 0 0 (.iface 123 (.pointer (some ep))) :: F)
          refine WPc.region ?_
          refine WP.val rfl rfl rfl (Val.move rfl rfl) ?_
          refine WP.val rfl rfl rfl (Val.load rfl Ty.sc83 rfl (fun w h => h.cell 6 rfl rfl)) ?_
          refine WP.val rfl rfl rfl (Val.nilCheck rfl rfl) ?_
          refine WP.val rfl rfl rfl (Val.fieldAddr (j := 2) rfl Ty.fo89_3 rfl rfl) ?_
          refine WP.val rfl rfl rfl (Val.load rfl Ty.sc84 rfl (fun w h => h.cell 8 rfl rfl)) ?_
          refine WP.perm pl1 ?_
          refine WP.eff rfl rfl rfl (Eff.call rfl rfl Tryd.call40 (sum_spec cb (crcWrite c d))) ?_
          rintro _ _ ⟨_, ⟨rfl, rfl⟩, rfl⟩
          show WP _ _ _ _ _ _ _ (Blk cb [.int .u32 ((crcWrite c d))] 99 :: Rec rb (some tx) (some cx) d :: Blk b4 (byt ((bs.drop (p + 8)).take ((encF fds).length + padn (encF fds).length))) 5 :: Rdr fb bs (p + 8 + ((encF fds).length + padn (encF fds).length)) :: Blk b3 [.int .i64 (((padn (encF fds).length : Nat) : Int))] 2 :: Blk b2 [.int .i64 ((((encF fds).length : Nat) : Int))] 2 :: Blk b1 [.pointer (some ⟨db, 0, none⟩)] 83 :: Ro (Blk qb qC qT) :: Blk db [.slice (some ⟨qb, qo, none⟩) ((fb :: (fs).map Prod.fst).length) qc, .int .i64 (((p : Nat) : Int)), .pointer (some ⟨cb, 0, none⟩), .bool (on)] 89 :: Kds (fun y : Fil => Rdr y.1 y.2 0) (fs) :: Cel 0 0 (.iface 123 (.pointer (some ep))) :: F)
          have vsp : Does Tryd.prog 82 [.pointer (some ⟨rb, 0, none⟩), .int .u32 (crcWrite c d)] [Rec rb (some tx) (some cx) d] (fun v L => v = .nilIface ∧ L = [Rec rb (some tx) (some cx) d]) := by
            have hvs := valid_spec rb tx cx d
            have e := hcx (by omega)
            rw [← e]
            exact hvs
          refine WP.perm pl1 ?_
          refine WP.eff rfl rfl rfl (Eff.call rfl rfl Tryd.call82 (vsp)) ?_
          rintro _ _ ⟨_, ⟨rfl, rfl⟩, rfl⟩
          show WP _ _ _ _ _ _ _ (Rec rb (some tx) (some cx) d :: Blk cb [.int .u32 ((crcWrite c d))] 99 :: Blk b4 (byt ((bs.drop (p + 8)).take ((encF fds).length + padn (encF fds).length))) 5 :: Rdr fb bs (p + 8 + ((encF fds).length + padn (encF fds).length)) :: Blk b3 [.int .i64 (((padn (encF fds).length : Nat) : Int))] 2 :: Blk b2 [.int .i64 ((((encF fds).length : Nat) : Int))] 2 :: Blk b1 [.pointer (some ⟨db, 0, none⟩)] 83 :: Ro (Blk qb qC qT) :: Blk db [.slice (some ⟨qb, qo, none⟩) ((fb :: (fs).map Prod.fst).length) qc, .int .i64 (((p : Nat) : Int)), .pointer (some ⟨cb, 0, none⟩), .bool (on)] 89 :: Kds (fun y : Fil => Rdr y.1 y.2 0) (fs) :: Cel 0 0 (.iface 123 (.pointer (some ep))) :: F)
          refine WP.val rfl rfl rfl (Val.assign rfl rfl) ?_
          refine WP.nil ?_
          refine Out.next ?_
          refine WPc.seq ?_
          refine WPc.region ?_
          refine WP.val rfl rfl rfl (Val.move rfl rfl) ?_
          refine WP.val rfl rfl rfl (Val.nilIn rfl Ty.if61 rfl) ?_
          refine WP.nil ?_
          refine Out.next ?_
          refine WPc.condF rfl rfl ?_
          refine WPc.skip ?_
          refine Out.next ?_
          refine WPc.seq ?_
          refine WPD.start (Sat W (Rec rb (some tx) (some cx) d :: Blk cb [.int .u32 ((crcWrite c d))] 99 :: Blk b4 (byt ((bs.drop (p + 8)).take ((encF fds).length + padn (encF fds).length))) 5 :: Rdr fb bs (p + 8 + ((encF fds).length + padn (encF fds).length)) :: Blk b3 [.int .i64 (((padn (encF fds).length : Nat) : Int))] 2 :: Blk b2 [.int .i64 ((((encF fds).length : Nat) : Int))] 2 :: Blk b1 [.pointer (some ⟨db, 0, none⟩)] 83 :: Ro (Blk qb qC qT) :: Blk db [.slice (some ⟨qb, qo, none⟩) ((fb :: (fs).map Prod.fst).length) qc, .int .i64 (((p : Nat) : Int)), .pointer (some ⟨cb, 0, none⟩), .bool (on)] 89 :: Kds (fun y : Fil => Rdr y.1 y.2 0) (fs) :: Cel 0 0 (.iface 123 (.pointer (some ep))) :: F)) Ty.mixed ?_
          refine WPD.take 0 rfl rfl rfl rfl (by kernel_rfl) (by kernel_rfl) (by kernel_rfl) (by kernel_rfl) (fun _ _ _ h => h) (by kernel_rfl) (fun _ h => h) (Val.load rfl Ty.sc83 rfl (fun w h => h.cell 6 rfl rfl)) ?_
          refine WPD.takeM 1 rfl rfl rfl rfl (by kernel_rfl) (by kernel_rfl) (by kernel_rfl) (by kernel_rfl) (fun _ _ _ h => h) (fun _ h => h) (Val.nilCheck rfl rfl) ?_
          refine WPD.takeM 2 rfl rfl rfl rfl (by kernel_rfl) (by kernel_rfl) (by kernel_rfl) (by kernel_rfl) (fun _ _ _ h => h) (fun _ h => h) (Val.fieldAddr (j := 1) rfl Ty.fo89_2 rfl rfl) ?_
          refine WPD.take 3 rfl rfl rfl rfl (by kernel_rfl) (by kernel_rfl) (by kernel_rfl) (by kernel_rfl) (fun _ _ _ h => h) (by kernel_rfl) (fun _ h => h) (Val.load rfl Ty.sc2 rfl (fun w h => h.cell 8 rfl rfl)) ?_
          refine WPD.take 4 rfl rfl rfl rfl (by kernel_rfl) (by kernel_rfl) (by kernel_rfl) (by kernel_rfl) (fun _ _ _ h => h) (by kernel_rfl) (fun _ h => h) (Val.load rfl Ty.sc2 rfl (fun w h => h.cell 5 rfl rfl)) ?_
          refine WPD.takeM 5 rfl rfl rfl rfl (by kernel_rfl) (by kernel_rfl) (by kernel_rfl) (by kernel_rfl) (fun _ _ _ h => h) (fun _ h => h) (Val.add (z := ((8 + ((encF fds).length) : Nat) : Int)) rfl rfl rfl ((w64 (by omega) (by omega)).trans (by omega))) ?_
          refine WPD.take 6 rfl rfl rfl rfl (by kernel_rfl) (by kernel_rfl) (by kernel_rfl) (by kernel_rfl) (fun _ _ _ h => h) (by kernel_rfl) (fun _ h => h) (Val.load rfl Ty.sc2 rfl (fun w h => h.cell 4 rfl rfl)) ?_
          refine WPD.takeM 7 rfl rfl rfl rfl (by kernel_rfl) (by kernel_rfl) (by kernel_rfl) (by kernel_rfl) (fun _ _ _ h => h) (fun _ h => h) (Val.add (z := (((8 + ((encF fds).length)) + (padn (encF fds).length) : Nat) : Int)) rfl rfl rfl ((w64 (by omega) (by omega)).trans (by omega))) ?_
          refine WPD.takeM 8 rfl rfl rfl rfl (by kernel_rfl) (by kernel_rfl) (by kernel_rfl) (by kernel_rfl) (fun _ _ _ h => h) (fun _ h => h) (Val.add (z := ((p + ((8 + ((encF fds).length)) + (padn (encF fds).length)) : Nat) : Int)) rfl rfl rfl ((w64 (by omega) (by omega)).trans (by omega))) ?_
          refine WPD.takeM 9 rfl rfl rfl rfl (by kernel_rfl) (by kernel_rfl) (by kernel_rfl) (by kernel_rfl) (fun _ _ _ h => h) (fun _ h => h) (Val.nilCheck rfl rfl) ?_
          refine WPD.takeM 10 rfl rfl rfl rfl (by kernel_rfl) (by kernel_rfl) (by kernel_rfl) (by kernel_rfl) (fun _ _ _ h => h) (fun _ h => h) (Val.fieldAddr (j := 1) rfl Ty.fo89_2 rfl rfl) ?_
          refine WPD.perm pl8 ?_
          refine WPD.stepC0 11 (by kernel_rfl) rfl rfl rfl (by kernel_rfl) (Eff.store rfl Ty.sc2 rfl rfl rfl (by simp) st1) ?_
          rintro _ _ rfl
          refine ⟨(Sat W (Blk db [.slice (some ⟨qb, qo, none⟩) ((fb :: (fs).map Prod.fst).length) qc, .int .i64 (((p + ((8 + ((encF fds).length)) + (padn (encF fds).length)) : Nat) : Int)), .pointer (some ⟨cb, 0, none⟩), .bool (on)] 89 :: Rec rb (some tx) (some cx) d :: Blk cb [.int .u32 ((crcWrite c d))] 99 :: Blk b4 (byt ((bs.drop (p + 8)).take ((encF fds).length + padn (encF fds).length))) 5 :: Rdr fb bs (p + 8 + ((encF fds).length + padn (encF fds).length)) :: Blk b3 [.int .i64 (((padn (encF fds).length : Nat) : Int))] 2 :: Blk b2 [.int .i64 ((((encF fds).length : Nat) : Int))] 2 :: Blk b1 [.pointer (some ⟨db, 0, none⟩)] 83 :: Ro (Blk qb qC qT) :: Kds (fun y : Fil => Rdr y.1 y.2 0) (fs) :: Cel 0 0 (.iface 123 (.pointer (some ep))) :: F)), (fun _ h => h), ?_⟩
          refine WPD.done (by kernel_rfl) ?_
          refine Out.next ?_
          refine WPc.seq ?_
          refine WPc.region ?_
          refine WP.val rfl rfl rfl (Val.assign rfl rfl) ?_
          refine WP.nil ?_
          refine Out.next ?_
          refine WPc.ret ?_
          refine Out.perm pl4 ?_
          refine Out.conv (fun w h => by rw [show p + 8 + ((encF fds).length + padn (encF fds).length) = (p + (8 + (encF fds).length + padn (encF fds).length)) from by omega] at h; exact h) ?_
          show Out _ _ _ _ _ (Rdr fb bs (p + (8 + (encF fds).length + padn (encF fds).length)) :: Blk db [.slice (some ⟨qb, qo, none⟩) ((fb :: (fs).map Prod.fst).length) qc, .int .i64 (((p + ((8 + ((encF fds).length)) + (padn (encF fds).length)) : Nat) : Int)), .pointer (some ⟨cb, 0, none⟩), .bool (on)] 89 :: Rec rb (some tx) (some cx) d :: Blk cb [.int .u32 ((crcWrite c d))] 99 :: Blk b4 (byt ((bs.drop (p + 8)).take ((encF fds).length + padn (encF fds).length))) 5 :: Blk b3 [.int .i64 (((padn (encF fds).length : Nat) : Int))] 2 :: Blk b2 [.int .i64 ((((encF fds).length : Nat) : Int))] 2 :: Blk b1 [.pointer (some ⟨db, 0, none⟩)] 83 :: Ro (Blk qb qC qT) :: Kds (fun y : Fil => Rdr y.1 y.2 0) (fs) :: Cel 0 0 (.iface 123 (.pointer (some ep))) :: F)
          refine Out.perm pl1 ?_
          refine Out.conv (M := Blk db [.slice (some ⟨qb, qo, none⟩) ((fb :: (fs).map Prod.fst).length) qc, .int .i64 ((((p + (8 + (encF fds).length + padn (encF fds).length)) : Nat) : Int)), .pointer (some ⟨cb, 0, none⟩), .bool (on)] 89 :: Rdr fb bs (p + (8 + (encF fds).length + padn (encF fds).length)) :: Rec rb (some tx) (some cx) d :: Blk cb [.int .u32 ((crcWrite c d))] 99 :: Blk b4 (byt ((bs.drop (p + 8)).take ((encF fds).length + padn (encF fds).length))) 5 :: Blk b3 [.int .i64 (((padn (encF fds).length : Nat) : Int))] 2 :: Blk b2 [.int .i64 ((((encF fds).length : Nat) : Int))] 2 :: Blk b1 [.pointer (some ⟨db, 0, none⟩)] 83 :: Ro (Blk qb qC qT) :: Kds (fun y : Fil => Rdr y.1 y.2 0) (fs) :: Cel 0 0 (.iface 123 (.pointer (some ep))) :: F) (fun w h => by rw [show p + ((8 + ((encF fds).length)) + (padn (encF fds).length)) = (p + (8 + (encF fds).length + padn (encF fds).length)) from by omega] at h; exact h) ?_
          refine Out.perm pl8 ?_
          refine Out.conv (fun w h => ptrs_mk (ps := fb :: fs.map Prod.fst) h hqc hqC) ?_
          show Out _ _ _ _ _ (Ptrs (.slice (some ⟨qb, qo, none⟩) (fb :: fs.map Prod.fst).length qc) (fb :: fs.map Prod.fst) :: Blk db [.slice (some ⟨qb, qo, none⟩) ((fb :: (fs).map Prod.fst).length) qc, .int .i64 ((((p + (8 + (encF fds).length + padn (encF fds).length)) : Nat) : Int)), .pointer (some ⟨cb, 0, none⟩), .bool (on)] 89 :: Rdr fb bs (p + (8 + (encF fds).length + padn (encF fds).length)) :: Rec rb (some tx) (some cx) d :: Blk cb [.int .u32 ((crcWrite c d))] 99 :: Blk b4 (byt ((bs.drop (p + 8)).take ((encF fds).length + padn (encF fds).length))) 5 :: Blk b3 [.int .i64 (((padn (encF fds).length : Nat) : Int))] 2 :: Blk b2 [.int .i64 ((((encF fds).length : Nat) : Int))] 2 :: Blk b1 [.pointer (some ⟨db, 0, none⟩)] 83 :: Kds (fun y : Fil => Rdr y.1 y.2 0) (fs) :: Cel 0 0 (.iface 123 (.pointer (some ep))) :: F)
          refine Out.perm pl5 ?_
          refine Out.drop ?_
          refine Out.perm pl5 ?_
          refine Out.drop ?_
          refine Out.perm pl5 ?_
          refine Out.drop ?_
          refine Out.perm pl5 ?_
          refine Out.drop ?_
          refine Out.perm pl6 ?_
          refine Out.perm pl4 ?_
          refine Out.perm pl6 ?_
          refine Out.perm pl5 ?_
          refine Out.perm pl4 ?_
          refine Out.perm pl6 ?_
          refine Out.perm pl6 ?_
          exact Out.retN0 (L' := [Dec db on ((fb, bs) :: fs) (p + (8 + (encF fds).length + padn (encF fds).length)) (p + (8 + (encF fds).length + padn (encF fds).length)) (if tx = 4 then c else crcWrite c d), Rec rb (some tx) (some cx) d, Cel 0 0 (.iface 123 (.pointer (some ep)))]) Tryd.results75 rfl ⟨rfl, rfl⟩ (fun w h => by rw [if_neg (by omega)]; exact dec_mk (fs := (fb, bs) :: fs) h)
        · skip
          have h4 : ¬ (tx ≠ (4 : Int)) := h4
          refine WPc.skip ?_
          refine Out.next ?_
          refine WPc.seq ?_
          refine WPD.start (Sat W (Rec rb (some tx) (some cx) d :: Blk b4 (byt ((bs.drop (p + 8)).take ((encF fds).length + padn (encF fds).length))) 5 :: Rdr fb bs (p + 8 + ((encF fds).length + padn (encF fds).length)) :: Blk b3 [.int .i64 (((padn (encF fds).length : Nat) : Int))] 2 :: Blk b2 [.int .i64 ((((encF fds).length : Nat) : Int))] 2 :: Blk b1 [.pointer (some ⟨db, 0, none⟩)] 83 :: Ro (Blk qb qC qT) :: Blk db [.slice (some ⟨qb, qo, none⟩) ((fb :: (fs).map Prod.fst).length) qc, .int .i64 (((p : Nat) : Int)), .pointer (some ⟨cb, 0, none⟩), .bool (on)] 89 :: Blk cb [.int .u32 (c)] 99 :: Kds (fun y : Fil => Rdr y.1 y.2 0) (fs) :: Cel 0 0 (.iface 123 (.pointer (some ep))) :: F)) Ty.mixed ?_
          refine WPD.take 0 rfl rfl rfl rfl (by kernel_rfl) (by kernel_rfl) (by kernel_rfl) (by kernel_rfl) (fun _ _ _ h => h) (by kernel_rfl) (fun _ h => h) (Val.load rfl Ty.sc83 rfl (fun w h => h.cell 5 rfl rfl)) ?_
          refine WPD.takeM 1 rfl rfl rfl rfl (by kernel_rfl) (by kernel_rfl) (by kernel_rfl) (by kernel_rfl) (fun _ _ _ h => h) (fun _ h => h) (Val.nilCheck rfl rfl) ?_
          refine WPD.takeM 2 rfl rfl rfl rfl (by kernel_rfl) (by kernel_rfl) (by kernel_rfl) (by kernel_rfl) (fun _ _ _ h => h) (fun _ h => h) (Val.fieldAddr (j := 1) rfl Ty.fo89_2 rfl rfl) ?_
          refine WPD.take 3 rfl rfl rfl rfl (by kernel_rfl) (by kernel_rfl) (by kernel_rfl) (by kernel_rfl) (fun _ _ _ h => h) (by kernel_rfl) (fun _ h => h) (Val.load rfl Ty.sc2 rfl (fun w h => h.cell 7 rfl rfl)) ?_
          refine WPD.take 4 rfl rfl rfl rfl (by kernel_rfl) (by kernel_rfl) (by kernel_rfl) (by kernel_rfl) (fun _ _ _ h => h) (by kernel_rfl) (fun _ h => h) (Val.load rfl Ty.sc2 rfl (fun w h => h.cell 4 rfl rfl)) ?_
          refine WPD.takeM 5 rfl rfl rfl rfl (by kernel_rfl) (by kernel_rfl) (by kernel_rfl) (by kernel_rfl) (fun _ _ _ h => h) (fun _ h => h) (Val.add (z := ((8 + ((encF fds).length) : Nat) : Int)) rfl rfl rfl ((w64 (by omega) (by omega)).trans (by omega))) ?_
          refine WPD.take 6 rfl rfl rfl rfl (by kernel_rfl) (by kernel_rfl) (by kernel_rfl) (by kernel_rfl) (fun _ _ _ h => h) (by kernel_rfl) (fun _ h => h) (Val.load rfl Ty.sc2 rfl (fun w h => h.cell 3 rfl rfl)) ?_
          refine WPD.takeM 7 rfl rfl rfl rfl (by kernel_rfl) (by kernel_rfl) (by kernel_rfl) (by kernel_rfl) (fun _ _ _ h => h) (fun _ h => h) (Val.add (z := (((8 + ((encF fds).length)) + (padn (encF fds).length) : Nat) : Int)) rfl rfl rfl ((w64 (by omega) (by omega)).trans (by omega))) ?_
          refine WPD.takeM 8 rfl rfl rfl rfl (by kernel_rfl) (by kernel_rfl) (by kernel_rfl) (by kernel_rfl) (fun _ _ _ h => h) (fun _ h => h) (Val.add (z := ((p + ((8 + ((encF fds).length)) + (padn (encF fds).length)) : Nat) : Int)) rfl rfl rfl ((w64 (by omega) (by omega)).trans (by omega))) ?_
          refine WPD.takeM 9 rfl rfl rfl rfl (by kernel_rfl) (by kernel_rfl) (by kernel_rfl) (by kernel_rfl) (fun _ _ _ h => h) (fun _ h => h) (Val.nilCheck rfl rfl) ?_
          refine WPD.takeM 10 rfl rfl rfl rfl (by kernel_rfl) (by kernel_rfl) (by kernel_rfl) (by kernel_rfl) (fun _ _ _ h => h) (fun _ h => h) (Val.fieldAddr (j := 1) rfl Ty.fo89_2 rfl rfl) ?_
          refine WPD.perm pl7 ?_
          refine WPD.stepC0 11 (by kernel_rfl) rfl rfl rfl (by kernel_rfl) (Eff.store rfl Ty.sc2 rfl rfl rfl (by simp) st1) ?_
          rintro _ _ rfl
          refine ⟨(Sat W (Blk db [.slice (some ⟨qb, qo, none⟩) ((fb :: (fs).map Prod.fst).length) qc, .int .i64 (((p + ((8 + ((encF fds).length)) + (padn (encF fds).length)) : Nat) : Int)), .pointer (some ⟨cb, 0, none⟩), .bool (on)] 89 :: Rec rb (some tx) (some cx) d :: Blk b4 (byt ((bs.drop (p + 8)).take ((encF fds).length + padn (encF fds).length))) 5 :: Rdr fb bs (p + 8 + ((encF fds).length + padn (encF fds).length)) :: Blk b3 [.int .i64 (((padn (encF fds).length : Nat) : Int))] 2 :: Blk b2 [.int .i64 ((((encF fds).length : Nat) : Int))] 2 :: Blk b1 [.pointer (some ⟨db, 0, none⟩)] 83 :: Ro (Blk qb qC qT) :: Blk cb [.int .u32 (c)] 99 :: Kds (fun y : Fil => Rdr y.1 y.2 0) (fs) :: Cel 0 0 (.iface 123 (.pointer (some ep))) :: F)), (fun _ h => h), ?_⟩
          refine WPD.done (by kernel_rfl) ?_
          refine Out.next ?_
          refine WPc.seq ?_
          refine WPc.region ?_
          refine WP.val rfl rfl rfl (Val.assign rfl rfl) ?_
          refine WP.nil ?_
          refine Out.next ?_
          refine WPc.ret ?_
          refine Out.perm pl3 ?_
          refine Out.conv (fun w h => by rw [show p + 8 + ((encF fds).length + padn (encF fds).length) = (p + (8 + (encF fds).length + padn (encF fds).length)) from by omega] at h; exact h) ?_
          show Out _ _ _ _ _ (Rdr fb bs (p + (8 + (encF fds).length + padn (encF fds).length)) :: Blk db [.slice (some ⟨qb, qo, none⟩) ((fb :: (fs).map Prod.fst).length) qc, .int .i64 (((p + ((8 + ((encF fds).length)) + (padn (encF fds).length)) : Nat) : Int)), .pointer (some ⟨cb, 0, none⟩), .bool (on)] 89 :: Rec rb (some tx) (some cx) d :: Blk b4 (byt ((bs.drop (p + 8)).take ((encF fds).length + padn (encF fds).length))) 5 :: Blk b3 [.int .i64 (((padn (encF fds).length : Nat) : Int))] 2 :: Blk b2 [.int .i64 ((((encF fds).length : Nat) : Int))] 2 :: Blk b1 [.pointer (some ⟨db, 0, none⟩)] 83 :: Ro (Blk qb qC qT) :: Blk cb [.int .u32 (c)] 99 :: Kds (fun y : Fil => Rdr y.1 y.2 0) (fs) :: Cel 0 0 (.iface 123 (.pointer (some ep))) :: F)
          refine Out.perm pl1 ?_
          refine Out.conv (M := Blk db [.slice (some ⟨qb, qo, none⟩) ((fb :: (fs).map Prod.fst).length) qc, .int .i64 ((((p + (8 + (encF fds).length + padn (encF fds).length)) : Nat) : Int)), .pointer (some ⟨cb, 0, none⟩), .bool (on)] 89 :: Rdr fb bs (p + (8 + (encF fds).length + padn (encF fds).length)) :: Rec rb (some tx) (some cx) d :: Blk b4 (byt ((bs.drop (p + 8)).take ((encF fds).length + padn (encF fds).length))) 5 :: Blk b3 [.int .i64 (((padn (encF fds).length : Nat) : Int))] 2 :: Blk b2 [.int .i64 ((((encF fds).length : Nat) : Int))] 2 :: Blk b1 [.pointer (some ⟨db, 0, none⟩)] 83 :: Ro (Blk qb qC qT) :: Blk cb [.int .u32 (c)] 99 :: Kds (fun y : Fil => Rdr y.1 y.2 0) (fs) :: Cel 0 0 (.iface 123 (.pointer (some ep))) :: F) (fun w h => by rw [show p + ((8 + ((encF fds).length)) + (padn (encF fds).length)) = (p + (8 + (encF fds).length + padn (encF fds).length)) from by omega] at h; exact h) ?_
          refine Out.perm pl7 ?_
          refine Out.conv (fun w h => ptrs_mk (ps := fb :: fs.map Prod.fst) h hqc hqC) ?_
          show Out _ _ _ _ _ (Ptrs (.slice (some ⟨qb, qo, none⟩) (fb :: fs.map Prod.fst).length qc) (fb :: fs.map Prod.fst) :: Blk db [.slice (some ⟨qb, qo, none⟩) ((fb :: (fs).map Prod.fst).length) qc, .int .i64 ((((p + (8 + (encF fds).length + padn (encF fds).length)) : Nat) : Int)), .pointer (some ⟨cb, 0, none⟩), .bool (on)] 89 :: Rdr fb bs (p + (8 + (encF fds).length + padn (encF fds).length)) :: Rec rb (some tx) (some cx) d :: Blk b4 (byt ((bs.drop (p + 8)).take ((encF fds).length + padn (encF fds).length))) 5 :: Blk b3 [.int .i64 (((padn (encF fds).length : Nat) : Int))] 2 :: Blk b2 [.int .i64 ((((encF fds).length : Nat) : Int))] 2 :: Blk b1 [.pointer (some ⟨db, 0, none⟩)] 83 :: Blk cb [.int .u32 (c)] 99 :: Kds (fun y : Fil => Rdr y.1 y.2 0) (fs) :: Cel 0 0 (.iface 123 (.pointer (some ep))) :: F)
          refine Out.perm pl4 ?_
          refine Out.drop ?_
          refine Out.perm pl4 ?_
          refine Out.drop ?_
          refine Out.perm pl4 ?_
          refine Out.drop ?_
          refine Out.perm pl4 ?_
          refine Out.drop ?_
          refine Out.perm pl6 ?_
          refine Out.perm pl4 ?_
          refine Out.perm pl6 ?_
          refine Out.perm pl5 ?_
          refine Out.perm pl4 ?_
          refine Out.perm pl6 ?_
          refine Out.perm pl6 ?_
          exact Out.retN0 (L' := [Dec db on ((fb, bs) :: fs) (p + (8 + (encF fds).length + padn (encF fds).length)) (p + (8 + (encF fds).length + padn (encF fds).length)) (if tx = 4 then c else crcWrite c d), Rec rb (some tx) (some cx) d, Cel 0 0 (.iface 123 (.pointer (some ep)))]) Tryd.results75 rfl ⟨rfl, rfl⟩ (fun w h => by rw [if_pos (by omega)]; exact dec_mk (fs := (fb, bs) :: fs) h)
set_option maxRecDepth 100000 in
set_option maxHeartbeats 2000000 in
theorem dr_end (db fb rb : Nat) (ep : Addr) (on : Bool) (bs : List UInt8) (p off : Nat) (c : Int) (hbs : bs.length ≤ 4294967296) (hp : p = bs.length) : Does Tryd.prog 75 [.pointer (some ⟨db, 0, none⟩), .pointer (some ⟨rb, 0, none⟩)] [Dec db on ((fb, bs) :: []) p off c, Rec rb none none [], Cel 0 0 (.iface 123 (.pointer (some ep)))] (fun v L => v = .iface 123 (.pointer (some ep)) ∧ L = [Dec db on [] 0 off c, Rec rb none none [], Cel 0 0 (.iface 123 (.pointer (some ep)))]) := by
  refine Does.enterN 171 Tryd.func75 rfl rfl rfl fun W F => ?_
  show WPc _ _ _ _ _ [(0, .pointer (some ⟨db, 0, none⟩)), (1, .pointer (some ⟨rb, 0, none⟩))] (Dec db on ((fb, bs) :: []) p off c :: Rec rb none none [] :: Cel 0 0 (.iface 123 (.pointer (some ep))) :: F)
  refine WPc.seq ?_
  refine WPc.open (fun w h => dec_open h) ?_
  rintro ⟨bv, cb⟩
  show WPc _ _ _ _ _ _ (Blk db [bv, .int .i64 (((off : Nat) : Int)), .pointer (some ⟨cb, 0, none⟩), .bool (on)] 89 :: Blk cb [.int .u32 (c)] 99 :: Ptrs bv (fb :: (([] : List Fil)).map Prod.fst) :: Rdr fb bs p :: Kds (fun y : Fil => Rdr y.1 y.2 0) (([] : List Fil)) :: Rec rb none none [] :: Cel 0 0 (.iface 123 (.pointer (some ep))) :: F)
  refine WPc.perm pl2 ?_
  refine WPc.open (fun w h => ptrs_open h) ?_
  rintro ⟨qb, qo, qc, qC, qT⟩
  refine WPc.pure (fun hq => ?_)
  obtain ⟨rfl, hqc, hqC⟩ := hq
  dsimp only at hqc hqC
  have hql : (fb :: (([] : List Fil)).map Prod.fst).length = (([] : List Fil)).length + 1 := by simp
  show WPc _ _ _ _ _ _ (Ro (Blk qb qC qT) :: Blk db [.slice (some ⟨qb, qo, none⟩) ((fb :: (([] : List Fil)).map Prod.fst).length) qc, .int .i64 (((off : Nat) : Int)), .pointer (some ⟨cb, 0, none⟩), .bool (on)] 89 :: Blk cb [.int .u32 (c)] 99 :: Rdr fb bs p :: Kds (fun y : Fil => Rdr y.1 y.2 0) (([] : List Fil)) :: Rec rb none none [] :: Cel 0 0 (.iface 123 (.pointer (some ep))) :: F)
  refine WPc.region ?_
  refine WP.eff rfl rfl rfl (Eff.box (C := [.pointer (some ⟨db, 0, none⟩)]) rfl rfl rfl) ?_
  rintro _ _ ⟨b1, rfl, rfl⟩
  refine WP.val rfl rfl rfl (Val.assign rfl rfl) ?_
  refine WP.nil ?_
  refine Out.next ?_
  refine WPc.seq ?_
  refine WPc.seq ?_
  refine WPc.region ?_
  refine WP.val rfl rfl rfl (Val.load rfl Ty.sc83 rfl (fun w h => h.cell 0 rfl rfl)) ?_
  refine WP.val rfl rfl rfl (Val.nilCheck rfl rfl) ?_
  refine WP.val rfl rfl rfl (Val.fieldAddr (j := 0) rfl Ty.fo89_1 rfl rfl) ?_
  refine WP.val rfl rfl rfl (Val.load rfl Ty.sc80 rfl (fun w h => h.cell 2 rfl rfl)) ?_
  refine WP.val rfl rfl rfl (Val.len rfl Ty.sl80 rfl) ?_
  refine WP.val rfl rfl rfl (Val.eql rfl rfl rfl) ?_
  refine WP.nil ?_
  refine Out.next ?_
  refine WPc.ifP rfl (fun h1 => ?_) (fun h1 => ?_)
  · skip
    have h1 : ((((fb :: (([] : List Fil)).map Prod.fst).length : Nat) : Int) = (0 : Int)) := h1
    exfalso; omega
  · skip
    have h1 : ¬ ((((fb :: (([] : List Fil)).map Prod.fst).length : Nat) : Int) = (0 : Int)) := h1
    refine WPc.skip ?_
    refine Out.next ?_
    refine WPc.seq ?_
    refine WPc.region ?_
    refine WP.val rfl rfl rfl (Val.load rfl Ty.sc83 rfl (fun w h => h.cell 0 rfl rfl)) ?_
    refine WP.val rfl rfl rfl (Val.nilCheck rfl rfl) ?_
    refine WP.val rfl rfl rfl (Val.fieldAddr (j := 0) rfl Ty.fo89_1 rfl rfl) ?_
    refine WP.val rfl rfl rfl (Val.load rfl Ty.sc80 rfl (fun w h => h.cell 2 rfl rfl)) ?_
    refine WP.val rfl rfl rfl (Val.indexAddr (j := 0) (q := qo + 0) rfl Ty.sl80 rfl rfl (by omega) (by omega) (by omega)) ?_
    refine WP.val rfl rfl rfl (Val.load (v := .pointer (some ⟨fb, 0, none⟩)) rfl Ty.sc81 rfl (fun w h => h.cellRo 1 rfl (ptrs_head hqC))) ?_
    refine WP.val rfl rfl rfl (Val.assign rfl rfl) ?_
    refine WP.nil ?_
    refine Out.next ?_
    refine WPc.seq ?_
    refine WPc.region ?_
    refine WP.val rfl rfl rfl (Val.move rfl rfl) ?_
    refine WP.val rfl rfl rfl (Val.iface rfl rfl Ty.ni81) ?_
    refine WP.perm pl7 ?_
    refine WP.perm pl5 ?_
    refine WP.eff rfl rfl rfl (Eff.call rfl rfl Tryd.call76 (ri_eof fb ep bs p hp hbs)) ?_
    rintro _ _ ⟨_, ⟨rfl, rfl⟩, rfl⟩
    show WP _ _ _ _ _ _ _ (Rdr fb bs p :: Cel 0 0 (.iface 123 (.pointer (some ep))) :: Blk b1 [.pointer (some ⟨db, 0, none⟩)] 83 :: Ro (Blk qb qC qT) :: Blk db [.slice (some ⟨qb, qo, none⟩) ((fb :: (([] : List Fil)).map Prod.fst).length) qc, .int .i64 (((off : Nat) : Int)), .pointer (some ⟨cb, 0, none⟩), .bool (on)] 89 :: Blk cb [.int .u32 (c)] 99 :: Kds (fun y : Fil => Rdr y.1 y.2 0) (([] : List Fil)) :: Rec rb none none [] :: F)
    refine WP.val rfl rfl rfl (Val.move rfl rfl) ?_
    refine WP.val rfl rfl rfl (Val.extract rfl rfl rfl) ?_
    refine WP.val rfl rfl rfl (Val.extract rfl rfl rfl) ?_
    refine WP.val rfl rfl rfl (Val.assign rfl rfl) ?_
    refine WP.val rfl rfl rfl (Val.assign rfl rfl) ?_
    refine WP.nil ?_
    refine Out.next ?_
    refine WPc.seq ?_
    refine WPc.seq ?_
    refine WPc.region ?_
    refine WP.val rfl rfl rfl (Val.move rfl rfl) ?_
    refine WP.val rfl rfl rfl (Val.load (v := .iface 123 (.pointer (some ep))) rfl Ty.sc61 rfl (fun w h => (h.at 1 rfl).cel)) ?_
    refine WP.val rfl rfl rfl (Val.eqIface rfl Ty.if61 pc123 rfl rfl) ?_
    refine WP.val rfl rfl rfl (Val.move rfl rfl) ?_
    refine WP.skip rfl rfl rfl rfl rfl rfl rfl ?_
    refine WP.skip rfl rfl rfl rfl rfl rfl rfl ?_
    refine WP.skip rfl rfl rfl rfl rfl rfl rfl ?_
    refine WP.skipU rfl rfl rfl rfl rfl rfl ?_
    refine WP.skipU rfl rfl rfl rfl rfl rfl ?_
    refine WP.skip rfl rfl rfl rfl rfl rfl rfl ?_
    refine WP.val rfl rfl rfl (Val.pickT rfl rfl rfl) ?_
    refine WP.nil ?_
    refine Out.next ?_
    refine WPc.condT rfl rfl ?_
    refine WPc.seq ?_
    refine WPD.start (Sat W (Rdr fb bs p :: Cel 0 0 (.iface 123 (.pointer (some ep))) :: Blk b1 [.pointer (some ⟨db, 0, none⟩)] 83 :: Ro (Blk qb qC qT) :: Blk db [.slice (some ⟨qb, qo, none⟩) ((fb :: (([] : List Fil)).map Prod.fst).length) qc, .int .i64 (((off : Nat) : Int)), .pointer (some ⟨cb, 0, none⟩), .bool (on)] 89 :: Blk cb [.int .u32 (c)] 99 :: Kds (fun y : Fil => Rdr y.1 y.2 0) (([] : List Fil)) :: Rec rb none none [] :: F)) Ty.mixed ?_
    refine WPD.take 0 rfl rfl rfl rfl (by kernel_rfl) (by kernel_rfl) (by kernel_rfl) (by kernel_rfl) (fun _ _ _ h => h) (by kernel_rfl) (fun _ h => h) (Val.load rfl Ty.sc83 rfl (fun w h => h.cell 2 rfl rfl)) ?_
    refine WPD.take 1 rfl rfl rfl rfl (by kernel_rfl) (by kernel_rfl) (by kernel_rfl) (by kernel_rfl) (fun _ _ _ h => h) (by kernel_rfl) (fun _ h => h) (Val.load rfl Ty.sc83 rfl (fun w h => h.cell 2 rfl rfl)) ?_
    refine WPD.takeM 2 rfl rfl rfl rfl (by kernel_rfl) (by kernel_rfl) (by kernel_rfl) (by kernel_rfl) (fun _ _ _ h => h) (fun _ h => h) (Val.nilCheck rfl rfl) ?_
    refine WPD.takeM 3 rfl rfl rfl rfl (by kernel_rfl) (by kernel_rfl) (by kernel_rfl) (by kernel_rfl) (fun _ _ _ h => h) (fun _ h => h) (Val.fieldAddr (j := 0) rfl Ty.fo89_1 rfl rfl) ?_
    refine WPD.take 4 rfl rfl rfl rfl (by kernel_rfl) (by kernel_rfl) (by kernel_rfl) (by kernel_rfl) (fun _ _ _ h => h) (by kernel_rfl) (fun _ h => h) (Val.load rfl Ty.sc80 rfl (fun w h => h.cell 4 rfl rfl)) ?_
    refine WPD.takeM 5 rfl rfl rfl rfl (by kernel_rfl) (by kernel_rfl) (by kernel_rfl) (by kernel_rfl) (fun _ _ _ h => h) (fun _ h => h) (Val.slice (lo := 1) (hi := (fb :: (([] : List Fil)).map Prod.fst).length) (j := (if qc = 1 then qo else qo + 1)) (vlo := some (.i64, (1 : Int))) (vhi := none) rfl Ty.sl80 rfl rfl rfl (by simp [bnd]; try omega) (by simp [bnd]; try omega) (by omega) (by omega) (by omega) (by simp)) ?_
    refine WPD.takeM 6 rfl rfl rfl rfl (by kernel_rfl) (by kernel_rfl) (by kernel_rfl) (by kernel_rfl) (fun _ _ _ h => h) (fun _ h => h) (Val.nilCheck rfl rfl) ?_
    refine WPD.takeM 7 rfl rfl rfl rfl (by kernel_rfl) (by kernel_rfl) (by kernel_rfl) (by kernel_rfl) (fun _ _ _ h => h) (fun _ h => h) (Val.fieldAddr (j := 0) rfl Ty.fo89_1 rfl rfl) ?_
    refine WPD.perm pl4 ?_
    refine WPD.stepC0 8 (by kernel_rfl) rfl rfl rfl (by kernel_rfl) (Eff.store rfl Ty.sc80 rfl rfl rfl (by simp) st0) ?_
    rintro _ _ rfl
    refine ⟨(Sat W (Blk db [.slice (some ⟨qb, (if qc = 1 then qo else qo + 1), none⟩) (((fb :: (([] : List Fil)).map Prod.fst).length) - 1) (qc - 1), .int .i64 (((off : Nat) : Int)), .pointer (some ⟨cb, 0, none⟩), .bool (on)] 89 :: Rdr fb bs p :: Cel 0 0 (.iface 123 (.pointer (some ep))) :: Blk b1 [.pointer (some ⟨db, 0, none⟩)] 83 :: Ro (Blk qb qC qT) :: Blk cb [.int .u32 (c)] 99 :: Kds (fun y : Fil => Rdr y.1 y.2 0) (([] : List Fil)) :: Rec rb none none [] :: F)), (fun _ h => h), ?_⟩
    refine WPD.done (by kernel_rfl) ?_
    refine Out.next ?_
    refine WPc.seq ?_
    refine WPc.seq ?_
    refine WPc.region ?_
    refine WP.val rfl rfl rfl (Val.load rfl Ty.sc83 rfl (fun w h => h.cell 3 rfl rfl)) ?_
    refine WP.val rfl rfl rfl (Val.nilCheck rfl rfl) ?_
    refine WP.val rfl rfl rfl (Val.fieldAddr (j := 0) rfl Ty.fo89_1 rfl rfl) ?_
    refine WP.val rfl rfl rfl (Val.load rfl Ty.sc80 rfl (fun w h => h.cell 0 rfl rfl)) ?_
    refine WP.val rfl rfl rfl (Val.len rfl Ty.sl80 rfl) ?_
    refine WP.val rfl rfl rfl (Val.eql rfl rfl rfl) ?_
    refine WP.nil ?_
    refine Out.next ?_
    refine WPc.ifP rfl (fun h2 => ?_) (fun h2 => ?_)
    · skip
      have h2 : (((((fb :: (([] : List Fil)).map Prod.fst).length) - 1 : Nat) : Int) = (0 : Int)) := h2
      refine WPc.seq ?_
      refine WPc.region ?_
      refine WP.val rfl rfl rfl (Val.load (v := .iface 123 (.pointer (some ep))) rfl Ty.sc61 rfl (fun w h => (h.at 2 rfl).cel)) ?_
      refine WP.val rfl rfl rfl (Val.assign rfl rfl) ?_
      refine WP.nil ?_
      refine Out.next ?_
      refine WPc.ret ?_
      refine Out.then_ret ?_
      refine Out.then_ret ?_
      refine Out.perm pl4 ?_
      refine Out.conv (fun w h => ptrs_mk (ps := (([] : List Fil).map Prod.fst)) (c := qc - 1) h (by first | (simp at hqc ⊢; done) | (simp at hqc ⊢; omega)) (ptrs_tail hqC hqc)) ?_
      show Out _ _ _ _ _ (Ptrs (.slice (some ⟨qb, if qc = 1 then qo else qo + 1, none⟩) (([] : List Fil).map Prod.fst).length (qc - 1)) (([] : List Fil).map Prod.fst) :: Blk db [.slice (some ⟨qb, (if qc = 1 then qo else qo + 1), none⟩) (((fb :: (([] : List Fil)).map Prod.fst).length) - 1) (qc - 1), .int .i64 (((off : Nat) : Int)), .pointer (some ⟨cb, 0, none⟩), .bool (on)] 89 :: Rdr fb bs p :: Cel 0 0 (.iface 123 (.pointer (some ep))) :: Blk b1 [.pointer (some ⟨db, 0, none⟩)] 83 :: Blk cb [.int .u32 (c)] 99 :: Kds (fun y : Fil => Rdr y.1 y.2 0) (([] : List Fil)) :: Rec rb none none [] :: F)
      refine Out.perm pl2 ?_
      refine Out.drop ?_
      refine Out.perm pl3 ?_
      refine Out.drop ?_
      refine Out.perm pl4 ?_
      refine Out.drop ?_
      refine Out.perm pl2 ?_
      refine Out.perm pl4 ?_
      refine Out.perm pl2 ?_
      refine Out.perm pl4 ?_
      refine Out.perm pl4 ?_
      exact Out.retN0 (L' := [Dec db on [] 0 off c, Rec rb none none [], Cel 0 0 (.iface 123 (.pointer (some ep)))]) Tryd.results75 rfl ⟨rfl, rfl⟩ (fun w h => dec_mk (fs := []) (p := 0) h)
    · skip
      have h2 : ¬ (((((fb :: (([] : List Fil)).map Prod.fst).length) - 1 : Nat) : Int) = (0 : Int)) := h2
      exfalso; simp at *
set_option maxRecDepth 100000 in
set_option maxHeartbeats 2000000 in
theorem dr_next (db fb rb : Nat) (ep : Addr) (on : Bool) (bs : List UInt8) (x : Fil) (xs : List Fil) (p off : Nat) (c : Int) (hbs : bs.length ≤ 4294967296) (hp : p = bs.length) (ev : Value) (DO RO : HProp) (ih : Does Tryd.prog 75 [.pointer (some ⟨db, 0, none⟩), .pointer (some ⟨rb, 0, none⟩)] [Dec db on (x :: xs) 0 0 c, Rec rb none none [], Cel 0 0 (.iface 123 (.pointer (some ep)))] (fun v L => v = ev ∧ L = [DO, RO, Cel 0 0 (.iface 123 (.pointer (some ep)))])) : Does Tryd.prog 75 [.pointer (some ⟨db, 0, none⟩), .pointer (some ⟨rb, 0, none⟩)] [Dec db on ((fb, bs) :: x :: xs) p off c, Rec rb none none [], Cel 0 0 (.iface 123 (.pointer (some ep)))] (fun v L => v = ev ∧ L = [DO, RO, Cel 0 0 (.iface 123 (.pointer (some ep)))]) := by
  refine Does.enterN 171 Tryd.func75 rfl rfl rfl fun W F => ?_
  show WPc _ _ _ _ _ [(0, .pointer (some ⟨db, 0, none⟩)), (1, .pointer (some ⟨rb, 0, none⟩))] (Dec db on ((fb, bs) :: x :: xs) p off c :: Rec rb none none [] :: Cel 0 0 (.iface 123 (.pointer (some ep))) :: F)
  refine WPc.seq ?_
  refine WPc.open (fun w h => dec_open h) ?_
  rintro ⟨bv, cb⟩
  show WPc _ _ _ _ _ _ (Blk db [bv, .int .i64 (((off : Nat) : Int)), .pointer (some ⟨cb, 0, none⟩), .bool (on)] 89 :: Blk cb [.int .u32 (c)] 99 :: Ptrs bv (fb :: (x :: xs).map Prod.fst) :: Rdr fb bs p :: Kds (fun y : Fil => Rdr y.1 y.2 0) (x :: xs) :: Rec rb none none [] :: Cel 0 0 (.iface 123 (.pointer (some ep))) :: F)
  refine WPc.perm pl2 ?_
  refine WPc.open (fun w h => ptrs_open h) ?_
  rintro ⟨qb, qo, qc, qC, qT⟩
  refine WPc.pure (fun hq => ?_)
  obtain ⟨rfl, hqc, hqC⟩ := hq
  dsimp only at hqc hqC
  have hql : (fb :: (x :: xs).map Prod.fst).length = (x :: xs).length + 1 := by simp
  show WPc _ _ _ _ _ _ (Ro (Blk qb qC qT) :: Blk db [.slice (some ⟨qb, qo, none⟩) ((fb :: (x :: xs).map Prod.fst).length) qc, .int .i64 (((off : Nat) : Int)), .pointer (some ⟨cb, 0, none⟩), .bool (on)] 89 :: Blk cb [.int .u32 (c)] 99 :: Rdr fb bs p :: Kds (fun y : Fil => Rdr y.1 y.2 0) (x :: xs) :: Rec rb none none [] :: Cel 0 0 (.iface 123 (.pointer (some ep))) :: F)
  refine WPc.region ?_
  refine WP.eff rfl rfl rfl (Eff.box (C := [.pointer (some ⟨db, 0, none⟩)]) rfl rfl rfl) ?_
  rintro _ _ ⟨b1, rfl, rfl⟩
  refine WP.val rfl rfl rfl (Val.assign rfl rfl) ?_
  refine WP.nil ?_
  refine Out.next ?_
  refine WPc.seq ?_
  refine WPc.seq ?_
  refine WPc.region ?_
  refine WP.val rfl rfl rfl (Val.load rfl Ty.sc83 rfl (fun w h => h.cell 0 rfl rfl)) ?_
  refine WP.val rfl rfl rfl (Val.nilCheck rfl rfl) ?_
  refine WP.val rfl rfl rfl (Val.fieldAddr (j := 0) rfl Ty.fo89_1 rfl rfl) ?_
  refine WP.val rfl rfl rfl (Val.load rfl Ty.sc80 rfl (fun w h => h.cell 2 rfl rfl)) ?_
  refine WP.val rfl rfl rfl (Val.len rfl Ty.sl80 rfl) ?_
  refine WP.val rfl rfl rfl (Val.eql rfl rfl rfl) ?_
  refine WP.nil ?_
  refine Out.next ?_
  refine WPc.ifP rfl (fun h1 => ?_) (fun h1 => ?_)
  · skip
    have h1 : ((((fb :: (x :: xs).map Prod.fst).length : Nat) : Int) = (0 : Int)) := h1
    exfalso; omega
  · skip
    have h1 : ¬ ((((fb :: (x :: xs).map Prod.fst).length : Nat) : Int) = (0 : Int)) := h1
    refine WPc.skip ?_
    refine Out.next ?_
    refine WPc.seq ?_
    refine WPc.region ?_
    refine WP.val rfl rfl rfl (Val.load rfl Ty.sc83 rfl (fun w h => h.cell 0 rfl rfl)) ?_
    refine WP.val rfl rfl rfl (Val.nilCheck rfl rfl) ?_
    refine WP.val rfl rfl rfl (Val.fieldAddr (j := 0) rfl Ty.fo89_1 rfl rfl) ?_
    refine WP.val rfl rfl rfl (Val.load rfl Ty.sc80 rfl (fun w h => h.cell 2 rfl rfl)) ?_
    refine WP.val rfl rfl rfl (Val.indexAddr (j := 0) (q := qo + 0) rfl Ty.sl80 rfl rfl (by omega) (by omega) (by omega)) ?_
    refine WP.val rfl rfl rfl (Val.load (v := .pointer (some ⟨fb, 0, none⟩)) rfl Ty.sc81 rfl (fun w h => h.cellRo 1 rfl (ptrs_head hqC))) ?_
    refine WP.val rfl rfl rfl (Val.assign rfl rfl) ?_
    refine WP.nil ?_
    refine Out.next ?_
    refine WPc.seq ?_
    refine WPc.region ?_
    refine WP.val rfl rfl rfl (Val.move rfl rfl) ?_
    refine WP.val rfl rfl rfl (Val.iface rfl rfl Ty.ni81) ?_
    refine WP.perm pl7 ?_
    refine WP.perm pl5 ?_
    refine WP.eff rfl rfl rfl (Eff.call rfl rfl Tryd.call76 (ri_eof fb ep bs p hp hbs)) ?_
    rintro _ _ ⟨_, ⟨rfl, rfl⟩, rfl⟩
    show WP _ _ _ _ _ _ _ (Rdr fb bs p :: Cel 0 0 (.iface 123 (.pointer (some ep))) :: Blk b1 [.pointer (some ⟨db, 0, none⟩)] 83 :: Ro (Blk qb qC qT) :: Blk db [.slice (some ⟨qb, qo, none⟩) ((fb :: (x :: xs).map Prod.fst).length) qc, .int .i64 (((off : Nat) : Int)), .pointer (some ⟨cb, 0, none⟩), .bool (on)] 89 :: Blk cb [.int .u32 (c)] 99 :: Kds (fun y : Fil => Rdr y.1 y.2 0) (x :: xs) :: Rec rb none none [] :: F)
    refine WP.val rfl rfl rfl (Val.move rfl rfl) ?_
    refine WP.val rfl rfl rfl (Val.extract rfl rfl rfl) ?_
    refine WP.val rfl rfl rfl (Val.extract rfl rfl rfl) ?_
    refine WP.val rfl rfl rfl (Val.assign rfl rfl) ?_
    refine WP.val rfl rfl rfl (Val.assign rfl rfl) ?_
    refine WP.nil ?_
    refine Out.next ?_
    refine WPc.seq ?_
    refine WPc.seq ?_
    refine WPc.region ?_
    refine WP.val rfl rfl rfl (Val.move rfl rfl) ?_
    refine WP.val rfl rfl rfl (Val.load (v := .iface 123 (.pointer (some ep))) rfl Ty.sc61 rfl (fun w h => (h.at 1 rfl).cel)) ?_
    refine WP.val rfl rfl rfl (Val.eqIface rfl Ty.if61 pc123 rfl rfl) ?_
    refine WP.val rfl rfl rfl (Val.move rfl rfl) ?_
    refine WP.skip rfl rfl rfl rfl rfl rfl rfl ?_
    refine WP.skip rfl rfl rfl rfl rfl rfl rfl ?_
    refine WP.skip rfl rfl rfl rfl rfl rfl rfl ?_
    refine WP.skipU rfl rfl rfl rfl rfl rfl ?_
    refine WP.skipU rfl rfl rfl rfl rfl rfl ?_
    refine WP.skip rfl rfl rfl rfl rfl rfl rfl ?_
    refine WP.val rfl rfl rfl (Val.pickT rfl rfl rfl) ?_
    refine WP.nil ?_
    refine Out.next ?_
    refine WPc.condT rfl rfl ?_
    refine WPc.seq ?_
    refine WPD.start (Sat W (Rdr fb bs p :: Cel 0 0 (.iface 123 (.pointer (some ep))) :: Blk b1 [.pointer (some ⟨db, 0, none⟩)] 83 :: Ro (Blk qb qC qT) :: Blk db [.slice (some ⟨qb, qo, none⟩) ((fb :: (x :: xs).map Prod.fst).length) qc, .int .i64 (((off : Nat) : Int)), .pointer (some ⟨cb, 0, none⟩), .bool (on)] 89 :: Blk cb [.int .u32 (c)] 99 :: Kds (fun y : Fil => Rdr y.1 y.2 0) (x :: xs) :: Rec rb none none [] :: F)) Ty.mixed ?_
    refine WPD.take 0 rfl rfl rfl rfl (by kernel_rfl) (by kernel_rfl) (by kernel_rfl) (by kernel_rfl) (fun _ _ _ h => h) (by kernel_rfl) (fun _ h => h) (Val.load rfl Ty.sc83 rfl (fun w h => h.cell 2 rfl rfl)) ?_
    refine WPD.take 1 rfl rfl rfl rfl (by kernel_rfl) (by kernel_rfl) (by kernel_rfl) (by kernel_rfl) (fun _ _ _ h => h) (by kernel_rfl) (fun _ h => h) (Val.load rfl Ty.sc83 rfl (fun w h => h.cell 2 rfl rfl)) ?_
    refine WPD.takeM 2 rfl rfl rfl rfl (by kernel_rfl) (by kernel_rfl) (by kernel_rfl) (by kernel_rfl) (fun _ _ _ h => h) (fun _ h => h) (Val.nilCheck rfl rfl) ?_
    refine WPD.takeM 3 rfl rfl rfl rfl (by kernel_rfl) (by kernel_rfl) (by kernel_rfl) (by kernel_rfl) (fun _ _ _ h => h) (fun _ h => h) (Val.fieldAddr (j := 0) rfl Ty.fo89_1 rfl rfl) ?_
    refine WPD.take 4 rfl rfl rfl rfl (by kernel_rfl) (by kernel_rfl) (by kernel_rfl) (by kernel_rfl) (fun _ _ _ h => h) (by kernel_rfl) (fun _ h => h) (Val.load rfl Ty.sc80 rfl (fun w h => h.cell 4 rfl rfl)) ?_
    refine WPD.takeM 5 rfl rfl rfl rfl (by kernel_rfl) (by kernel_rfl) (by kernel_rfl) (by kernel_rfl) (fun _ _ _ h => h) (fun _ h => h) (Val.slice (lo := 1) (hi := (fb :: (x :: xs).map Prod.fst).length) (j := (if qc = 1 then qo else qo + 1)) (vlo := some (.i64, (1 : Int))) (vhi := none) rfl Ty.sl80 rfl rfl rfl (by simp [bnd]; try omega) (by simp [bnd]; try omega) (by omega) (by omega) (by omega) (by simp)) ?_
    refine WPD.takeM 6 rfl rfl rfl rfl (by kernel_rfl) (by kernel_rfl) (by kernel_rfl) (by kernel_rfl) (fun _ _ _ h => h) (fun _ h => h) (Val.nilCheck rfl rfl) ?_
    refine WPD.takeM 7 rfl rfl rfl rfl (by kernel_rfl) (by kernel_rfl) (by kernel_rfl) (by kernel_rfl) (fun _ _ _ h => h) (fun _ h => h) (Val.fieldAddr (j := 0) rfl Ty.fo89_1 rfl rfl) ?_
    refine WPD.perm pl4 ?_
    refine WPD.stepC0 8 (by kernel_rfl) rfl rfl rfl (by kernel_rfl) (Eff.store rfl Ty.sc80 rfl rfl rfl (by simp) st0) ?_
    rintro _ _ rfl
    refine ⟨(Sat W (Blk db [.slice (some ⟨qb, (if qc = 1 then qo else qo + 1), none⟩) (((fb :: (x :: xs).map Prod.fst).length) - 1) (qc - 1), .int .i64 (((off : Nat) : Int)), .pointer (some ⟨cb, 0, none⟩), .bool (on)] 89 :: Rdr fb bs p :: Cel 0 0 (.iface 123 (.pointer (some ep))) :: Blk b1 [.pointer (some ⟨db, 0, none⟩)] 83 :: Ro (Blk qb qC qT) :: Blk cb [.int .u32 (c)] 99 :: Kds (fun y : Fil => Rdr y.1 y.2 0) (x :: xs) :: Rec rb none none [] :: F)), (fun _ h => h), ?_⟩
    refine WPD.done (by kernel_rfl) ?_
    refine Out.next ?_
    refine WPc.seq ?_
    refine WPc.seq ?_
    refine WPc.region ?_
    refine WP.val rfl rfl rfl (Val.load rfl Ty.sc83 rfl (fun w h => h.cell 3 rfl rfl)) ?_
    refine WP.val rfl rfl rfl (Val.nilCheck rfl rfl) ?_
    refine WP.val rfl rfl rfl (Val.fieldAddr (j := 0) rfl Ty.fo89_1 rfl rfl) ?_
    refine WP.val rfl rfl rfl (Val.load rfl Ty.sc80 rfl (fun w h => h.cell 0 rfl rfl)) ?_
    refine WP.val rfl rfl rfl (Val.len rfl Ty.sl80 rfl) ?_
    refine WP.val rfl rfl rfl (Val.eql rfl rfl rfl) ?_
    refine WP.nil ?_
    refine Out.next ?_
    refine WPc.ifP rfl (fun h2 => ?_) (fun h2 => ?_)
    · skip
      have h2 : (((((fb :: (x :: xs).map Prod.fst).length) - 1 : Nat) : Int) = (0 : Int)) := h2
      exfalso; have hxs : (x :: xs).length = xs.length + 1 := rfl; omega
    · skip
      have h2 : ¬ (((((fb :: (x :: xs).map Prod.fst).length) - 1 : Nat) : Int) = (0 : Int)) := h2
      refine WPc.skip ?_
      refine Out.next ?_
      refine WPc.seq ?_
      refine WPc.region ?_
      refine WP.val rfl rfl rfl (Val.load rfl Ty.sc83 rfl (fun w h => h.cell 3 rfl rfl)) ?_
      refine WP.val rfl rfl rfl (Val.nilCheck rfl rfl) ?_
      refine WP.val rfl rfl rfl (Val.fieldAddr (j := 1) rfl Ty.fo89_2 rfl rfl) ?_
      refine WP.eff0 rfl rfl (Eff.store rfl Ty.sc2 rfl rfl rfl (by simp) st1) ?_
      rintro _ _ rfl
      refine WP.nil ?_
      refine Out.next ?_
      refine WPc.seq ?_
      refine WPc.perm pl1 ?_
      refine WPc.drop ?_
      refine WPc.perm pl3 ?_
      refine WPc.conv (fun w h => ptrs_mk (ps := ((x :: xs).map Prod.fst)) (c := qc - 1) h (by first | (simp at hqc ⊢; done) | (simp at hqc ⊢; omega)) (ptrs_tail hqC hqc)) ?_
      show WPc _ _ _ _ _ _ (Ptrs (.slice (some ⟨qb, if qc = 1 then qo else qo + 1, none⟩) ((x :: xs).map Prod.fst).length (qc - 1)) ((x :: xs).map Prod.fst) :: Blk db [.slice (some ⟨qb, (if qc = 1 then qo else qo + 1), none⟩) (((fb :: (x :: xs).map Prod.fst).length) - 1) (qc - 1), .int .i64 0, .pointer (some ⟨cb, 0, none⟩), .bool (on)] 89 :: Cel 0 0 (.iface 123 (.pointer (some ep))) :: Blk b1 [.pointer (some ⟨db, 0, none⟩)] 83 :: Blk cb [.int .u32 (c)] 99 :: Kds (fun y : Fil => Rdr y.1 y.2 0) (x :: xs) :: Rec rb none none [] :: F)
      refine WPc.perm pl5 ?_
      refine WPc.conv (fun w h => h.kCons) ?_
      show WPc _ _ _ _ _ _ (Rdr x.1 x.2 0 :: Kds (fun y : Fil => Rdr y.1 y.2 0) xs :: Ptrs (.slice (some ⟨qb, if qc = 1 then qo else qo + 1, none⟩) ((x :: xs).map Prod.fst).length (qc - 1)) ((x :: xs).map Prod.fst) :: Blk db [.slice (some ⟨qb, (if qc = 1 then qo else qo + 1), none⟩) (((fb :: (x :: xs).map Prod.fst).length) - 1) (qc - 1), .int .i64 0, .pointer (some ⟨cb, 0, none⟩), .bool (on)] 89 :: Cel 0 0 (.iface 123 (.pointer (some ep))) :: Blk b1 [.pointer (some ⟨db, 0, none⟩)] 83 :: Blk cb [.int .u32 (c)] 99 :: Rec rb none none [] :: F)
      refine WPc.perm pl1 ?_
      refine WPc.perm pl1 ?_
      refine WPc.perm pl2 ?_
      refine WPc.perm pl6 ?_
      refine WPc.perm pl4 ?_
      refine WPc.conv (fun w h => dec_mk (fs := x :: xs) (p := 0) (off := 0) h) ?_
      show WPc _ _ _ _ _ _ (Dec db on (x :: xs) 0 0 c :: Cel 0 0 (.iface 123 (.pointer (some ep))) :: Blk b1 [.pointer (some ⟨db, 0, none⟩)] 83 :: Rec rb none none [] :: F)
      refine WPc.region ?_
      refine WP.val rfl rfl rfl (Val.load rfl Ty.sc83 rfl (fun w h => h.cell 2 rfl rfl)) ?_
      refine WP.val rfl rfl rfl (Val.move rfl rfl) ?_
      refine WP.perm pl1 ?_
      refine WP.perm pl3 ?_
      refine WP.perm pl2 ?_
      refine WP.eff rfl rfl rfl (Eff.call rfl rfl Tryd.call75 (ih)) ?_
      rintro _ _ ⟨_, ⟨rfl, rfl⟩, rfl⟩
      show WP _ _ _ _ _ _ _ (DO :: RO :: Cel 0 0 (.iface 123 (.pointer (some ep))) :: Blk b1 [.pointer (some ⟨db, 0, none⟩)] 83 :: F)
      refine WP.val rfl rfl rfl (Val.assign rfl rfl) ?_
      refine WP.nil ?_
      refine Out.next ?_
      refine WPc.ret ?_
      refine Out.then_ret ?_
      refine Out.perm pl3 ?_
      refine Out.drop ?_
      exact Out.retN0 (L' := _) Tryd.results75 rfl ⟨rfl, rfl⟩ (fun _ h => h)

end Go.Proofs.YthicijpjpijdjaaDoor.Wn
