import Derived.Test.YthicijpjpijdjaaDoorWj
namespace Go.Proofs.YthicijpjpijdjaaDoor.Wk
open Go.RowKit Go.Proofs.YthicijpjpijdjaaDoor Go.Proofs.YthicijpjpijdjaaDoor.Sl Go.Proofs.YthicijpjpijdjaaDoor.Wa Go.Proofs.YthicijpjpijdjaaDoor.Wb Go.Proofs.YthicijpjpijdjaaDoor.Wc Go.Proofs.YthicijpjpijdjaaDoor.Wd Go.Proofs.YthicijpjpijdjaaDoor.We Go.Proofs.YthicijpjpijdjaaDoor.Wf Go.Proofs.YthicijpjpijdjaaDoor.Wg Go.Proofs.YthicijpjpijdjaaDoor.Wh Go.Proofs.YthicijpjpijdjaaDoor.Wi Go.Proofs.YthicijpjpijdjaaDoor.Wj
set_option linter.unusedVariables false
set_option linter.unusedSimpArgs false
set_option linter.unusedSectionVars false


/-- a record in memory -/
def Rec (rb : Nat) (t c : Option Int) (d : List UInt8) : HProp := Ex fun q : Value × Value × Value => Sep [Blk rb [q.1, q.2.1, q.2.2] 59, PtrO 2 q.1 (t.map (Value.int .i64)), PtrO 22 q.2.1 (c.map (Value.int .u32)), Own 5 1 q.2.2 d.length (byt d)]
theorem rec_open {W w : World} {rb : Nat} {t c : Option Int} {d : List UInt8} {L : List HProp} (h : Sat W (Rec rb t c d :: L) w) : ∃ q : Value × Value × Value, Sat W (Blk rb [q.1, q.2.1, q.2.2] 59 :: PtrO 2 q.1 (t.map (Value.int .i64)) :: PtrO 22 q.2.1 (c.map (Value.int .u32)) :: Own 5 1 q.2.2 d.length (byt d) :: L) w := by
  obtain ⟨q, h⟩ := h.ex
  exact ⟨q, h.sep⟩
theorem rec_mk {W w : World} {rb : Nat} {t c : Option Int} {d : List UInt8} {tv cv dv : Value} {L : List HProp} (h : Sat W (Blk rb [tv, cv, dv] 59 :: PtrO 2 tv (t.map (Value.int .i64)) :: PtrO 22 cv (c.map (Value.int .u32)) :: Own 5 1 dv d.length (byt d) :: L) w) : Sat W (Rec rb t c d :: L) w := Sat.ex_mk (tv, cv, dv) (Sat.sep_mk h)
/-- a field of a record's bytes -/
inductive Fld where
  | ty (z : Int)
  | su (z : Int)
  | d (l : List UInt8)
def encF : List Fld → List UInt8
  | [] => []
  | .ty z :: fs => vint 8 ++ (vint z ++ encF fs)
  | .su z :: fs => vint 16 ++ (vint z ++ encF fs)
  | .d l :: fs => vint 26 ++ (vint ((l.length : Nat) : Int) ++ (l ++ encF fs))
def Fld.ok : Fld → Prop
  | .ty z => 0 ≤ z ∧ z < 18446744073709551616
  | .su z => 0 ≤ z ∧ z < 18446744073709551616
  | .d _ => True
abbrev R3 := Option Int × Option Int × List UInt8
def appF (r : R3) : Fld → R3
  | .ty z => (some (IntKind.wrap .i64 z), r.2.1, r.2.2)
  | .su z => (r.1, some (IntKind.wrap .u32 (IntKind.wrap .i64 z)), r.2.2)
  | .d l => (r.1, r.2.1, l)
theorem encF_pos : ∀ fs : List Fld, fs ≠ [] → 0 < (encF fs).length
  | [], h => absurd rfl h
  | .ty z :: fs, _ => by
    have : (vint 8).length = 1 := by decide
    simp only [encF, List.length_append]; omega
  | .su z :: fs, _ => by
    have : (vint 16).length = 1 := by decide
    simp only [encF, List.length_append]; omega
  | .d l :: fs, _ => by
    have : (vint 26).length = 1 := by decide
    simp only [encF, List.length_append]; omega
theorem encF_le (f : Fld) (fs : List Fld) : (encF fs).length ≤ (encF (f :: fs)).length := by
  cases f <;> simp only [encF, List.length_append] <;> omega
set_option maxRecDepth 100000 in
set_option maxHeartbeats 2000000 in
theorem tf_spec (A : HProp) (rb : Nat) (fs0 : List Fld) (t0 c0' : Option Int) (d0 : List UInt8) (fin : R3) (hf : fs0.foldl appF (t0, c0', d0) = fin) (hok0 : ∀ x ∈ fs0, x.ok) (b0 o0 c0 : Nat) (hr : ∀ w, Holds A w → w.rangeAt b0 o0 (byt (encF fs0))) (hlen : (encF fs0).length ≤ 4294967296) (hlc : (encF fs0).length ≤ c0) : Does Tryd.prog 91 [.pointer (some ⟨rb, 0, none⟩), .slice (some ⟨b0, o0, none⟩) ((encF fs0).length) c0] [Rec rb t0 c0' d0, A] (fun v L => v = .bool true ∧ L = [Rec rb fin.1 fin.2.1 fin.2.2, A]) := by
  refine Does.enter 64 Tryd.func91 rfl rfl rfl fun W F => ?_
  show WPc _ _ _ _ _ [(0, .pointer (some ⟨rb, 0, none⟩)), (1, .slice (some ⟨b0, o0, none⟩) ((encF fs0).length) c0)] (Rec rb t0 c0' d0 :: A :: F)
  refine WPc.seq ?_
  refine WPc.open (fun w h => rec_open h) ?_
  rintro ⟨tv0, cv0, dv0⟩
  show WPc _ _ _ _ _ _ (Blk rb [tv0, cv0, dv0] 59 :: PtrO 2 tv0 (t0.map (Value.int .i64)) :: PtrO 22 cv0 (c0'.map (Value.int .u32)) :: Own 5 1 dv0 d0.length (byt d0) :: A :: F)
  refine WPc.region ?_
  refine WP.val rfl rfl rfl (Val.assign rfl rfl) ?_
  refine WP.nil ?_
  refine Out.next ?_
  refine WPc.seq ?_
  refine WPc.block ?_
  refine WPc.loop (ι := List Fld × Option Int × Option Int × List UInt8 × Value × Value × Value × Nat × Nat) (fun ⟨fs, t, c, d, tv, cv, dv, o, k⟩ => fs.foldl appF (t, c, d) = fin ∧ (∀ x ∈ fs, x.ok) ∧ (encF fs).length ≤ 4294967296 ∧ (encF fs).length ≤ k ∧ ∀ w, Holds A w → w.rangeAt b0 o (byt (encF fs))) (fun ⟨fs, t, c, d, tv, cv, dv, o, k⟩ => [(0, .pointer (some ⟨rb, 0, none⟩)), (1, .slice (some ⟨b0, o, none⟩) ((encF fs).length) k)]) (fun ⟨fs, t, c, d, tv, cv, dv, o, k⟩ => Blk rb [tv, cv, dv] 59 :: PtrO 2 tv (t.map (Value.int .i64)) :: PtrO 22 cv (c.map (Value.int .u32)) :: Own 5 1 dv d.length (byt d) :: A :: F) (fun ⟨fs, t, c, d, tv, cv, dv, o, k⟩ => fs.length) (fs0, t0, c0', d0, tv0, cv0, dv0, o0, c0) ⟨hf, hok0, hlen, hlc, hr⟩ ((Sub.cons rfl (Sub.cons rfl Sub.nil))) (fun _ h => h) ?_
  rintro ⟨fs, t, c, d, tv, cv, dv, o, k⟩ ⟨he, hok, hlen, hlc, hr⟩
  show WPc _ _ _ _ _ [(0, .pointer (some ⟨rb, 0, none⟩)), (1, .slice (some ⟨b0, o, none⟩) ((encF fs).length) k)] (Blk rb [tv, cv, dv] 59 :: PtrO 2 tv (t.map (Value.int .i64)) :: PtrO 22 cv (c.map (Value.int .u32)) :: Own 5 1 dv d.length (byt d) :: A :: F)
  refine WPc.seq ?_
  refine WPc.seq ?_
  refine WPc.region ?_
  refine WP.val rfl rfl rfl (Val.move rfl rfl) ?_
  refine WP.val rfl rfl rfl (Val.len rfl Ty.sl40 rfl) ?_
  refine WP.val rfl rfl rfl (Val.gtr rfl rfl rfl) ?_
  refine WP.nil ?_
  refine Out.next ?_
  refine WPc.ifP rfl (fun h1 => ?_) (fun h1 => ?_)
  · skip
    have h1 : ((0 : Int) < (((encF fs).length : Nat) : Int)) := h1
    refine WPc.skip ?_
    refine Out.next ?_
    refine WPc.block ?_
    refine WPc.seq ?_
    obtain ⟨f, fs', rfl⟩ : ∃ f fs', fs = f :: fs' := by
      cases fs with
      | nil => exfalso; simp [encF] at *
      | cons f fs' => exact ⟨f, fs', rfl⟩
    rcases f with z | z | dd
    · skip
      have hok1 := hok _ List.mem_cons_self
      have hok2 := fun x hx => hok x (List.mem_cons_of_mem _ hx)
      have hle := encF_le (Fld.ty z) fs'
      refine WPc.region ?_
      refine WP.val rfl rfl rfl (Val.move rfl rfl) ?_
      refine WP.perm pl4 ?_
      refine WP.eff rfl rfl rfl (Eff.call rfl rfl Tryd.call92 (Take_ty A (encF (Fld.ty z :: fs')) (encF fs') b0 o k hr hlen hlc z hok1 rfl)) ?_
      rintro _ _ ⟨_, ⟨o1, k1, hk1, rfl, rfl, hh1⟩, rfl⟩
      show WP _ _ _ _ _ _ _ (A :: Blk rb [tv, cv, dv] 59 :: PtrO 2 tv (t.map (Value.int .i64)) :: PtrO 22 cv (c.map (Value.int .u32)) :: Own 5 1 dv d.length (byt d) :: F)
      refine WP.val rfl rfl rfl (Val.move rfl rfl) ?_
      refine WP.val rfl rfl rfl (Val.extract rfl rfl rfl) ?_
      refine WP.val rfl rfl rfl (Val.extract rfl rfl rfl) ?_
      refine WP.val rfl rfl rfl (Val.extract rfl rfl rfl) ?_
      refine WP.eff rfl rfl rfl (Eff.alloc rfl Ty.z162) ?_
      rintro _ _ ⟨b1, rfl, rfl⟩
      refine WP.eff0 rfl rfl (Eff.storeAgg (cs := [.int .i64 1, .bool false, .int .i64 ((IntKind.wrap .i64 z)), .slice none 0 0]) (C' := [.int .i64 1, .bool false, .int .i64 ((IntKind.wrap .i64 z)), .slice none 0 0]) rfl Ty.ag162 rfl rfl rfl rfl (by simp) rfl) ?_
      rintro _ _ rfl
      refine WP.val rfl rfl rfl (Val.assign rfl rfl) ?_
      refine WP.val rfl rfl rfl (Val.assign rfl rfl) ?_
      refine WP.nil ?_
      refine Out.next ?_
      refine WPc.seq ?_
      refine WPc.seq ?_
      refine WPc.region ?_
      refine WP.val rfl rfl rfl (Val.move rfl rfl) ?_
      refine WP.val rfl rfl rfl (Val.not rfl rfl) ?_
      refine WP.nil ?_
      refine Out.next ?_
      refine WPc.condF rfl rfl ?_
      refine WPc.skip ?_
      refine Out.next ?_
      refine WPc.seq ?_
      refine WPc.region ?_
      refine WP.val rfl rfl rfl (Val.move rfl rfl) ?_
      refine WP.val rfl rfl rfl (Val.assign rfl rfl) ?_
      refine WP.nil ?_
      refine Out.next ?_
      refine WPc.seq ?_
      refine WPc.region ?_
      refine WP.val rfl rfl rfl (Val.fieldAddr (j := 0) rfl Ty.fo162_0 rfl rfl) ?_
      refine WP.val rfl rfl rfl (Val.load rfl Ty.sc3 rfl (fun w h => h.cell 0 rfl rfl)) ?_
      refine WP.val rfl rfl rfl (Val.assign rfl rfl) ?_
      refine WP.nil ?_
      refine Out.next ?_
      refine WPc.block ?_
      refine WPc.seq ?_
      refine WPc.region ?_
      refine WP.val rfl rfl rfl (Val.move rfl rfl) ?_
      refine WP.val rfl rfl rfl (Val.eqlK rfl rfl rfl rfl) ?_
      refine WP.val rfl rfl rfl (Val.move rfl rfl) ?_
      refine WP.valG rfl rfl rfl rfl rfl rfl rfl (Val.fieldAddr (j := 1) rfl Ty.fo162_1 rfl rfl) ?_
      refine WP.valG rfl rfl rfl rfl rfl rfl rfl (Val.load rfl Ty.sc4 rfl (fun w h => h.cell 0 rfl rfl)) ?_
      refine WP.valG rfl rfl rfl rfl rfl rfl rfl (Val.not rfl rfl) ?_
      refine WP.val rfl rfl rfl (Val.pickT rfl rfl rfl) ?_
      refine WP.val rfl rfl rfl (Val.assign rfl rfl) ?_
      refine WP.nil ?_
      refine Out.next ?_
      refine WPc.condT rfl rfl ?_
      refine WPc.seq ?_
      refine WPc.region ?_
      refine WP.val rfl rfl rfl (Val.fieldAddr (j := 2) rfl Ty.fo162_2 rfl rfl) ?_
      refine WP.val rfl rfl rfl (Val.load rfl Ty.sc2 rfl (fun w h => h.cell 0 rfl rfl)) ?_
      refine WP.eff rfl rfl rfl (Eff.alloc rfl Ty.z2) ?_
      rintro _ _ ⟨b2, rfl, rfl⟩
      refine WP.eff0 rfl rfl (Eff.store rfl Ty.sc2 rfl rfl rfl (by simp) st0) ?_
      rintro _ _ rfl
      refine WP.nil ?_
      refine Out.next ?_
      refine WPc.region ?_
      refine WP.val rfl rfl rfl (Val.move rfl rfl) ?_
      refine WP.val rfl rfl rfl (Val.nilCheck rfl rfl) ?_
      refine WP.val rfl rfl rfl (Val.fieldAddr (j := 0) rfl Ty.fo59_0 rfl rfl) ?_
      refine WP.perm pl3 ?_
      refine WP.eff0 rfl rfl (Eff.store rfl Ty.sc56 rfl rfl rfl (by simp) st0) ?_
      rintro _ _ rfl
      refine WP.nil ?_
      refine Out.block ?_
      refine Out.block ?_
      refine Out.perm pl4 ?_
      refine Out.drop ?_
      refine Out.perm pl1 ?_
      refine Out.conv (fun w h => Sat.ptrMk h) ?_
      refine Out.perm pl2 ?_
      refine Out.drop ?_
      refine Out.perm pl2 ?_
      refine Out.perm pl4 ?_
      refine Out.perm pl4 ?_
      refine Out.perm pl3 ?_
      refine Out.perm pl4 ?_
      refine Out.again (fs', some (IntKind.wrap .i64 z), c, d, .pointer (some ⟨b2, 0, none⟩), cv, dv, o1, k1) ?_ ?_ ?_ ?_
      · exact ⟨he, hok2, by omega, hk1, hh1⟩
      · show fs'.length < (_ :: fs').length; simp
      · exact (Sub.cons rfl (Sub.cons rfl Sub.nil))
      · exact (fun _ h => h)
    · skip
      have hok1 := hok _ List.mem_cons_self
      have hok2 := fun x hx => hok x (List.mem_cons_of_mem _ hx)
      have hle := encF_le (Fld.su z) fs'
      refine WPc.region ?_
      refine WP.val rfl rfl rfl (Val.move rfl rfl) ?_
      refine WP.perm pl4 ?_
      refine WP.eff rfl rfl rfl (Eff.call rfl rfl Tryd.call92 (Take_su A (encF (Fld.su z :: fs')) (encF fs') b0 o k hr hlen hlc z hok1 rfl)) ?_
      rintro _ _ ⟨_, ⟨o1, k1, hk1, rfl, rfl, hh1⟩, rfl⟩
      show WP _ _ _ _ _ _ _ (A :: Blk rb [tv, cv, dv] 59 :: PtrO 2 tv (t.map (Value.int .i64)) :: PtrO 22 cv (c.map (Value.int .u32)) :: Own 5 1 dv d.length (byt d) :: F)
      refine WP.val rfl rfl rfl (Val.move rfl rfl) ?_
      refine WP.val rfl rfl rfl (Val.extract rfl rfl rfl) ?_
      refine WP.val rfl rfl rfl (Val.extract rfl rfl rfl) ?_
      refine WP.val rfl rfl rfl (Val.extract rfl rfl rfl) ?_
      refine WP.eff rfl rfl rfl (Eff.alloc rfl Ty.z162) ?_
      rintro _ _ ⟨b3, rfl, rfl⟩
      refine WP.eff0 rfl rfl (Eff.storeAgg (cs := [.int .i64 2, .bool false, .int .i64 ((IntKind.wrap .i64 z)), .slice none 0 0]) (C' := [.int .i64 2, .bool false, .int .i64 ((IntKind.wrap .i64 z)), .slice none 0 0]) rfl Ty.ag162 rfl rfl rfl rfl (by simp) rfl) ?_
      rintro _ _ rfl
      refine WP.val rfl rfl rfl (Val.assign rfl rfl) ?_
      refine WP.val rfl rfl rfl (Val.assign rfl rfl) ?_
      refine WP.nil ?_
      refine Out.next ?_
      refine WPc.seq ?_
      refine WPc.seq ?_
      refine WPc.region ?_
      refine WP.val rfl rfl rfl (Val.move rfl rfl) ?_
      refine WP.val rfl rfl rfl (Val.not rfl rfl) ?_
      refine WP.nil ?_
      refine Out.next ?_
      refine WPc.condF rfl rfl ?_
      refine WPc.skip ?_
      refine Out.next ?_
      refine WPc.seq ?_
      refine WPc.region ?_
      refine WP.val rfl rfl rfl (Val.move rfl rfl) ?_
      refine WP.val rfl rfl rfl (Val.assign rfl rfl) ?_
      refine WP.nil ?_
      refine Out.next ?_
      refine WPc.seq ?_
      refine WPc.region ?_
      refine WP.val rfl rfl rfl (Val.fieldAddr (j := 0) rfl Ty.fo162_0 rfl rfl) ?_
      refine WP.val rfl rfl rfl (Val.load rfl Ty.sc3 rfl (fun w h => h.cell 0 rfl rfl)) ?_
      refine WP.val rfl rfl rfl (Val.assign rfl rfl) ?_
      refine WP.nil ?_
      refine Out.next ?_
      refine WPc.block ?_
      refine WPc.seq ?_
      refine WPc.region ?_
      refine WP.val rfl rfl rfl (Val.move rfl rfl) ?_
      refine WP.val rfl rfl rfl (Val.eqlK rfl rfl rfl rfl) ?_
      refine WP.val rfl rfl rfl (Val.move rfl rfl) ?_
      refine WP.skip rfl rfl rfl rfl rfl rfl rfl ?_
      refine WP.skip rfl rfl rfl rfl rfl rfl rfl ?_
      refine WP.skip rfl rfl rfl rfl rfl rfl rfl ?_
      refine WP.val rfl rfl rfl (Val.pickF rfl rfl rfl) ?_
      refine WP.val rfl rfl rfl (Val.assign rfl rfl) ?_
      refine WP.nil ?_
      refine Out.next ?_
      refine WPc.condF rfl rfl ?_
      refine WPc.seq ?_
      refine WPc.region ?_
      refine WP.val rfl rfl rfl (Val.move rfl rfl) ?_
      refine WP.val rfl rfl rfl (Val.eqlK rfl rfl rfl rfl) ?_
      refine WP.val rfl rfl rfl (Val.move rfl rfl) ?_
      refine WP.valG rfl rfl rfl rfl rfl rfl rfl (Val.fieldAddr (j := 1) rfl Ty.fo162_1 rfl rfl) ?_
      refine WP.valG rfl rfl rfl rfl rfl rfl rfl (Val.load rfl Ty.sc4 rfl (fun w h => h.cell 0 rfl rfl)) ?_
      refine WP.valG rfl rfl rfl rfl rfl rfl rfl (Val.not rfl rfl) ?_
      refine WP.val rfl rfl rfl (Val.pickT rfl rfl rfl) ?_
      refine WP.val rfl rfl rfl (Val.assign rfl rfl) ?_
      refine WP.nil ?_
      refine Out.next ?_
      refine WPc.condT rfl rfl ?_
      refine WPc.seq ?_
      refine WPc.region ?_
      refine WP.val rfl rfl rfl (Val.fieldAddr (j := 2) rfl Ty.fo162_2 rfl rfl) ?_
      refine WP.val rfl rfl rfl (Val.load rfl Ty.sc2 rfl (fun w h => h.cell 0 rfl rfl)) ?_
      refine WP.val rfl rfl rfl (Val.conv (z := IntKind.wrap .u32 (IntKind.wrap .i64 z)) rfl Ty.ik22 Ty.un2 rfl rfl) ?_
      refine WP.eff rfl rfl rfl (Eff.alloc rfl Ty.z22) ?_
      rintro _ _ ⟨b4, rfl, rfl⟩
      refine WP.eff0 rfl rfl (Eff.store rfl Ty.sc22 rfl rfl rfl (by simp) st0) ?_
      rintro _ _ rfl
      refine WP.nil ?_
      refine Out.next ?_
      refine WPc.region ?_
      refine WP.val rfl rfl rfl (Val.move rfl rfl) ?_
      refine WP.val rfl rfl rfl (Val.nilCheck rfl rfl) ?_
      refine WP.val rfl rfl rfl (Val.fieldAddr (j := 1) rfl Ty.fo59_1 rfl rfl) ?_
      refine WP.perm pl3 ?_
      refine WP.eff0 rfl rfl (Eff.store rfl Ty.sc57 rfl rfl rfl (by simp) st1) ?_
      rintro _ _ rfl
      refine WP.nil ?_
      refine Out.block ?_
      refine Out.block ?_
      refine Out.perm pl5 ?_
      refine Out.drop ?_
      refine Out.perm pl1 ?_
      refine Out.conv (fun w h => Sat.ptrMk h) ?_
      refine Out.perm pl2 ?_
      refine Out.drop ?_
      refine Out.perm pl2 ?_
      refine Out.perm pl4 ?_
      refine Out.perm pl2 ?_
      refine Out.perm pl4 ?_
      refine Out.perm pl4 ?_
      refine Out.again (fs', t, some (IntKind.wrap .u32 (IntKind.wrap .i64 z)), d, tv, .pointer (some ⟨b4, 0, none⟩), dv, o1, k1) ?_ ?_ ?_ ?_
      · exact ⟨he, hok2, by omega, hk1, hh1⟩
      · show fs'.length < (_ :: fs').length; simp
      · exact (Sub.cons rfl (Sub.cons rfl Sub.nil))
      · exact (fun _ h => h)
    · skip
      have hok1 := hok _ List.mem_cons_self
      have hok2 := fun x hx => hok x (List.mem_cons_of_mem _ hx)
      have hle := encF_le (Fld.d dd) fs'
      refine WPc.region ?_
      refine WP.val rfl rfl rfl (Val.move rfl rfl) ?_
      refine WP.perm pl4 ?_
      refine WP.eff rfl rfl rfl (Eff.call rfl rfl Tryd.call92 (Take_d A (encF (Fld.d dd :: fs')) (encF fs') b0 o k hr hlen hlc dd rfl)) ?_
      rintro _ _ ⟨_, ⟨o1, k1, u, hk1, rfl, rfl, hh1⟩, rfl⟩
      show WP _ _ _ _ _ _ _ (Own 5 1 u dd.length (byt dd) :: A :: Blk rb [tv, cv, dv] 59 :: PtrO 2 tv (t.map (Value.int .i64)) :: PtrO 22 cv (c.map (Value.int .u32)) :: Own 5 1 dv d.length (byt d) :: F)
      refine WP.fact (fun w h => own_oneCell h) (fun oneu => ?_)
      refine WP.val rfl rfl rfl (Val.move rfl rfl) ?_
      refine WP.val rfl rfl rfl (Val.extract rfl rfl rfl) ?_
      refine WP.val rfl rfl rfl (Val.extract rfl rfl rfl) ?_
      refine WP.val rfl rfl rfl (Val.extract rfl rfl rfl) ?_
      refine WP.eff rfl rfl rfl (Eff.alloc rfl Ty.z162) ?_
      rintro _ _ ⟨b5, rfl, rfl⟩
      refine WP.eff0 rfl rfl (Eff.storeAgg (cs := [.int .i64 3, .bool true, .int .i64 0, u]) (C' := [.int .i64 3, .bool true, .int .i64 0, u]) rfl Ty.ag162 rfl rfl rfl (by simp only [List.all_cons, List.all_nil, Bool.and_true, oc_int, oc_str, oc_bool, oc_ptr, oc_slice, oc_iface, oc_map, oneu]) (by simp) rfl) ?_
      rintro _ _ rfl
      refine WP.val rfl rfl rfl (Val.assign rfl rfl) ?_
      refine WP.val rfl rfl rfl (Val.assign rfl rfl) ?_
      refine WP.nil ?_
      refine Out.next ?_
      refine WPc.seq ?_
      refine WPc.seq ?_
      refine WPc.region ?_
      refine WP.val rfl rfl rfl (Val.move rfl rfl) ?_
      refine WP.val rfl rfl rfl (Val.not rfl rfl) ?_
      refine WP.nil ?_
      refine Out.next ?_
      refine WPc.condF rfl rfl ?_
      refine WPc.skip ?_
      refine Out.next ?_
      refine WPc.seq ?_
      refine WPc.region ?_
      refine WP.val rfl rfl rfl (Val.move rfl rfl) ?_
      refine WP.val rfl rfl rfl (Val.assign rfl rfl) ?_
      refine WP.nil ?_
      refine Out.next ?_
      refine WPc.seq ?_
      refine WPc.region ?_
      refine WP.val rfl rfl rfl (Val.fieldAddr (j := 0) rfl Ty.fo162_0 rfl rfl) ?_
      refine WP.val rfl rfl rfl (Val.load rfl Ty.sc3 rfl (fun w h => h.cell 0 rfl rfl)) ?_
      refine WP.val rfl rfl rfl (Val.assign rfl rfl) ?_
      refine WP.nil ?_
      refine Out.next ?_
      refine WPc.block ?_
      refine WPc.seq ?_
      refine WPc.region ?_
      refine WP.val rfl rfl rfl (Val.move rfl rfl) ?_
      refine WP.val rfl rfl rfl (Val.eqlK rfl rfl rfl rfl) ?_
      refine WP.val rfl rfl rfl (Val.move rfl rfl) ?_
      refine WP.skip rfl rfl rfl rfl rfl rfl rfl ?_
      refine WP.skip rfl rfl rfl rfl rfl rfl rfl ?_
      refine WP.skip rfl rfl rfl rfl rfl rfl rfl ?_
      refine WP.val rfl rfl rfl (Val.pickF rfl rfl rfl) ?_
      refine WP.val rfl rfl rfl (Val.assign rfl rfl) ?_
      refine WP.nil ?_
      refine Out.next ?_
      refine WPc.condF rfl rfl ?_
      refine WPc.seq ?_
      refine WPc.region ?_
      refine WP.val rfl rfl rfl (Val.move rfl rfl) ?_
      refine WP.val rfl rfl rfl (Val.eqlK rfl rfl rfl rfl) ?_
      refine WP.val rfl rfl rfl (Val.move rfl rfl) ?_
      refine WP.skip rfl rfl rfl rfl rfl rfl rfl ?_
      refine WP.skip rfl rfl rfl rfl rfl rfl rfl ?_
      refine WP.skip rfl rfl rfl rfl rfl rfl rfl ?_
      refine WP.val rfl rfl rfl (Val.pickF rfl rfl rfl) ?_
      refine WP.val rfl rfl rfl (Val.assign rfl rfl) ?_
      refine WP.nil ?_
      refine Out.next ?_
      refine WPc.condF rfl rfl ?_
      refine WPc.seq ?_
      refine WPc.region ?_
      refine WP.val rfl rfl rfl (Val.move rfl rfl) ?_
      refine WP.val rfl rfl rfl (Val.eqlK rfl rfl rfl rfl) ?_
      refine WP.val rfl rfl rfl (Val.move rfl rfl) ?_
      refine WP.valG rfl rfl rfl rfl rfl rfl rfl (Val.fieldAddr (j := 1) rfl Ty.fo162_1 rfl rfl) ?_
      refine WP.valG rfl rfl rfl rfl rfl rfl rfl (Val.load rfl Ty.sc4 rfl (fun w h => h.cell 0 rfl rfl)) ?_
      refine WP.val rfl rfl rfl (Val.pickT rfl rfl rfl) ?_
      refine WP.val rfl rfl rfl (Val.assign rfl rfl) ?_
      refine WP.nil ?_
      refine Out.next ?_
      refine WPc.condT rfl rfl ?_
      refine WPc.region ?_
      refine WP.val rfl rfl rfl (Val.move rfl rfl) ?_
      refine WP.val rfl rfl rfl (Val.fieldAddr (j := 3) rfl Ty.fo162_3 rfl rfl) ?_
      refine WP.val rfl rfl rfl (Val.load rfl Ty.sc40 rfl (fun w h => h.cell 0 rfl rfl)) ?_
      refine WP.val rfl rfl rfl (Val.nilCheck rfl rfl) ?_
      refine WP.val rfl rfl rfl (Val.fieldAddr (j := 2) rfl Ty.fo59_2 rfl rfl) ?_
      refine WP.perm pl3 ?_
      refine WP.eff0 rfl rfl (Eff.store rfl Ty.sc40 rfl rfl oneu (by simp) st2) ?_
      rintro _ _ rfl
      refine WP.nil ?_
      refine Out.block ?_
      refine Out.block ?_
      refine Out.perm pl1 ?_
      refine Out.drop ?_
      refine Out.perm pl5 ?_
      refine Out.drop ?_
      refine Out.perm pl2 ?_
      refine Out.perm pl2 ?_
      refine Out.perm pl4 ?_
      refine Out.perm pl4 ?_
      refine Out.perm pl4 ?_
      refine Out.again (fs', t, c, dd, tv, cv, u, o1, k1) ?_ ?_ ?_ ?_
      · exact ⟨he, hok2, by omega, hk1, hh1⟩
      · show fs'.length < (_ :: fs').length; simp
      · exact (Sub.cons rfl (Sub.cons rfl Sub.nil))
      · exact (fun _ h => h)
  · skip
    have h1 : ¬ ((0 : Int) < (((encF fs).length : Nat) : Int)) := h1
    refine WPc.exit ?_
    refine Out.then_exit ?_
    refine Out.then_exit ?_
    refine Out.block_exit ?_
    refine Out.next ?_
    refine WPc.seq ?_
    refine WPc.region ?_
    refine WP.val rfl rfl rfl (Val.assign rfl rfl) ?_
    refine WP.nil ?_
    refine Out.next ?_
    refine WPc.ret ?_
    obtain rfl : fs = [] := by
      cases fs with
      | nil => rfl
      | cons f fs' => exact absurd (encF_pos (f :: fs') (by simp)) (by omega)
    subst he
    exact Out.ret1 (L' := _) Tryd.results91 rfl ⟨rfl, rfl⟩ (fun w h => rec_mk h)
set_option maxRecDepth 100000 in
set_option maxHeartbeats 2000000 in
theorem unm_spec (A : HProp) (rb : Nat) (fs0 : List Fld) (t0 c0' : Option Int) (d0 : List UInt8) (fin : R3) (hf : fs0.foldl appF (t0, c0', d0) = fin) (hok0 : ∀ x ∈ fs0, x.ok) (b0 o0 c0 : Nat) (hr : ∀ w, Holds A w → w.rangeAt b0 o0 (byt (encF fs0))) (hlen : (encF fs0).length ≤ 4294967296) (hlc : (encF fs0).length ≤ c0) : Does Tryd.prog 80 [.slice (some ⟨b0, o0, none⟩) ((encF fs0).length) c0, .iface 55 (.pointer (some ⟨rb, 0, none⟩))] [Rec rb t0 c0' d0, A] (fun v L => v = .nilIface ∧ L = [Rec rb fin.1 fin.2.1 fin.2.2, A]) := by
  refine Does.enter 10 Tryd.func80 rfl rfl rfl fun W F => ?_
  show WPc _ _ _ _ _ [(0, .slice (some ⟨b0, o0, none⟩) ((encF fs0).length) c0), (1, .iface 55 (.pointer (some ⟨rb, 0, none⟩)))] (Rec rb t0 c0' d0 :: A :: F)
  refine WPc.seq ?_
  refine WPc.region ?_
  refine WP.val rfl rfl rfl (Val.assign rfl rfl) ?_
  refine WP.nil ?_
  refine Out.next ?_
  refine WPc.seq ?_
  refine WPc.seq ?_
  refine WPc.region ?_
  refine WP.val rfl rfl rfl (Val.move rfl rfl) ?_
  refine WP.val rfl rfl rfl (Val.move rfl rfl) ?_
  refine WP.perm pl1 ?_
  refine WP.perm pl1 ?_
  refine WP.eff rfl rfl rfl (Eff.invoke (f := 91) rfl rfl rfl (fun _ => by kernel_rfl) Tryd.call91 (tf_spec A rb fs0 t0 c0' d0 fin hf hok0 b0 o0 c0 hr hlen hlc)) ?_
  rintro _ _ ⟨_, ⟨rfl, rfl⟩, rfl⟩
  show WP _ _ _ _ _ _ _ (Rec rb fin.1 fin.2.1 fin.2.2 :: A :: F)
  refine WP.val rfl rfl rfl (Val.not rfl rfl) ?_
  refine WP.nil ?_
  refine Out.next ?_
  refine WPc.condF rfl rfl ?_
  refine WPc.skip ?_
  refine Out.next ?_
  refine WPc.seq ?_
  refine WPc.region ?_
  refine WP.val rfl rfl rfl (Val.assign rfl rfl) ?_
  refine WP.nil ?_
  refine Out.next ?_
  refine WPc.ret ?_
  exact Out.ret1 (L' := _) Tryd.results80 rfl ⟨rfl, rfl⟩ (fun _ h => h)
set_option maxRecDepth 100000 in
set_option maxHeartbeats 2000000 in
theorem gty_spec (rb : Nat) (tx cx : Int) (d : List UInt8) : Does Tryd.prog 22 [.pointer (some ⟨rb, 0, none⟩)] [Rec rb (some tx) (some cx) d] (fun v L => v = .int .i64 tx ∧ L = [Rec rb (some tx) (some cx) d]) := by
  refine Does.enter 14 Tryd.func22 rfl rfl rfl fun W F => ?_
  show WPc _ _ _ _ _ [(0, .pointer (some ⟨rb, 0, none⟩))] (Rec rb (some tx) (some cx) d :: F)
  refine WPc.seq ?_
  refine WPc.open (fun w h => rec_open h) ?_
  rintro ⟨tv1, cv1, dv1⟩
  show WPc _ _ _ _ _ _ (Blk rb [tv1, cv1, dv1] 59 :: PtrO 2 tv1 ((some (tx)).map (Value.int .i64)) :: PtrO 22 cv1 ((some (cx)).map (Value.int .u32)) :: Own 5 1 dv1 ((d).length) (byt (d)) :: F)
  refine WPc.perm pl1 ?_
  refine WPc.open (fun w h => h.ptrSome) ?_
  rintro tb1
  refine WPc.pure (fun hvtb1 => ?_)
  subst hvtb1
  show WPc _ _ _ _ _ _ (Blk tb1 [.int .i64 (tx)] 2 :: Blk rb [.pointer (some ⟨tb1, 0, none⟩), cv1, dv1] 59 :: PtrO 22 cv1 ((some (cx)).map (Value.int .u32)) :: Own 5 1 dv1 ((d).length) (byt (d)) :: F)
  refine WPc.perm pl2 ?_
  refine WPc.open (fun w h => h.ptrSome) ?_
  rintro xb1
  refine WPc.pure (fun hvxb1 => ?_)
  subst hvxb1
  show WPc _ _ _ _ _ _ (Blk xb1 [.int .u32 (cx)] 22 :: Blk tb1 [.int .i64 (tx)] 2 :: Blk rb [.pointer (some ⟨tb1, 0, none⟩), .pointer (some ⟨xb1, 0, none⟩), dv1] 59 :: Own 5 1 dv1 ((d).length) (byt (d)) :: F)
  refine WPc.region ?_
  refine WP.val rfl rfl rfl (Val.assign rfl rfl) ?_
  refine WP.nil ?_
  refine Out.next ?_
  refine WPc.seq ?_
  refine WPc.seq ?_
  refine WPc.region ?_
  refine WP.val rfl rfl rfl (Val.move rfl rfl) ?_
  refine WP.val rfl rfl rfl (Val.nilCheck rfl rfl) ?_
  refine WP.val rfl rfl rfl (Val.fieldAddr (j := 0) rfl Ty.fo59_0 rfl rfl) ?_
  refine WP.val rfl rfl rfl (Val.load rfl Ty.sc56 rfl (fun w h => h.cell 2 rfl rfl)) ?_
  refine WP.val rfl rfl rfl (Val.nilP rfl Ty.ip56 rfl rfl) ?_
  refine WP.nil ?_
  refine Out.next ?_
  refine WPc.condF rfl rfl ?_
  refine WPc.skip ?_
  refine Out.next ?_
  refine WPc.seq ?_
  refine WPc.region ?_
  refine WP.val rfl rfl rfl (Val.move rfl rfl) ?_
  refine WP.val rfl rfl rfl (Val.nilCheck rfl rfl) ?_
  refine WP.val rfl rfl rfl (Val.fieldAddr (j := 0) rfl Ty.fo59_0 rfl rfl) ?_
  refine WP.val rfl rfl rfl (Val.load rfl Ty.sc56 rfl (fun w h => h.cell 2 rfl rfl)) ?_
  refine WP.val rfl rfl rfl (Val.nilCheck rfl rfl) ?_
  refine WP.val rfl rfl rfl (Val.load rfl Ty.sc2 rfl (fun w h => h.cell 1 rfl rfl)) ?_
  refine WP.val rfl rfl rfl (Val.assign rfl rfl) ?_
  refine WP.nil ?_
  refine Out.next ?_
  refine WPc.ret ?_
  refine Out.perm pl1 ?_
  refine Out.conv (fun w h => Sat.ptrMk h) ?_
  refine Out.perm pl1 ?_
  refine Out.conv (fun w h => Sat.ptrMk h) ?_
  refine Out.perm pl3 ?_
  refine Out.perm pl1 ?_
  refine Out.perm pl2 ?_
  refine Out.perm pl3 ?_
  exact Out.ret1 (L' := [Rec rb (some tx) (some cx) d]) Tryd.results22 rfl ⟨rfl, rfl⟩ (fun w h => rec_mk h)
set_option maxRecDepth 100000 in
set_option maxHeartbeats 2000000 in
theorem gcr_spec (rb : Nat) (tx cx : Int) (d : List UInt8) : Does Tryd.prog 23 [.pointer (some ⟨rb, 0, none⟩)] [Rec rb (some tx) (some cx) d] (fun v L => v = .int .u32 cx ∧ L = [Rec rb (some tx) (some cx) d]) := by
  refine Does.enter 14 Tryd.func23 rfl rfl rfl fun W F => ?_
  show WPc _ _ _ _ _ [(0, .pointer (some ⟨rb, 0, none⟩))] (Rec rb (some tx) (some cx) d :: F)
  refine WPc.seq ?_
  refine WPc.open (fun w h => rec_open h) ?_
  rintro ⟨tv1, cv1, dv1⟩
  show WPc _ _ _ _ _ _ (Blk rb [tv1, cv1, dv1] 59 :: PtrO 2 tv1 ((some (tx)).map (Value.int .i64)) :: PtrO 22 cv1 ((some (cx)).map (Value.int .u32)) :: Own 5 1 dv1 ((d).length) (byt (d)) :: F)
  refine WPc.perm pl1 ?_
  refine WPc.open (fun w h => h.ptrSome) ?_
  rintro tb1
  refine WPc.pure (fun hvtb1 => ?_)
  subst hvtb1
  show WPc _ _ _ _ _ _ (Blk tb1 [.int .i64 (tx)] 2 :: Blk rb [.pointer (some ⟨tb1, 0, none⟩), cv1, dv1] 59 :: PtrO 22 cv1 ((some (cx)).map (Value.int .u32)) :: Own 5 1 dv1 ((d).length) (byt (d)) :: F)
  refine WPc.perm pl2 ?_
  refine WPc.open (fun w h => h.ptrSome) ?_
  rintro xb1
  refine WPc.pure (fun hvxb1 => ?_)
  subst hvxb1
  show WPc _ _ _ _ _ _ (Blk xb1 [.int .u32 (cx)] 22 :: Blk tb1 [.int .i64 (tx)] 2 :: Blk rb [.pointer (some ⟨tb1, 0, none⟩), .pointer (some ⟨xb1, 0, none⟩), dv1] 59 :: Own 5 1 dv1 ((d).length) (byt (d)) :: F)
  refine WPc.region ?_
  refine WP.val rfl rfl rfl (Val.assign rfl rfl) ?_
  refine WP.nil ?_
  refine Out.next ?_
  refine WPc.seq ?_
  refine WPc.seq ?_
  refine WPc.region ?_
  refine WP.val rfl rfl rfl (Val.move rfl rfl) ?_
  refine WP.val rfl rfl rfl (Val.nilCheck rfl rfl) ?_
  refine WP.val rfl rfl rfl (Val.fieldAddr (j := 1) rfl Ty.fo59_1 rfl rfl) ?_
  refine WP.val rfl rfl rfl (Val.load rfl Ty.sc57 rfl (fun w h => h.cell 2 rfl rfl)) ?_
  refine WP.val rfl rfl rfl (Val.nilP rfl Ty.ip57 rfl rfl) ?_
  refine WP.nil ?_
  refine Out.next ?_
  refine WPc.condF rfl rfl ?_
  refine WPc.skip ?_
  refine Out.next ?_
  refine WPc.seq ?_
  refine WPc.region ?_
  refine WP.val rfl rfl rfl (Val.move rfl rfl) ?_
  refine WP.val rfl rfl rfl (Val.nilCheck rfl rfl) ?_
  refine WP.val rfl rfl rfl (Val.fieldAddr (j := 1) rfl Ty.fo59_1 rfl rfl) ?_
  refine WP.val rfl rfl rfl (Val.load rfl Ty.sc57 rfl (fun w h => h.cell 2 rfl rfl)) ?_
  refine WP.val rfl rfl rfl (Val.nilCheck rfl rfl) ?_
  refine WP.val rfl rfl rfl (Val.load rfl Ty.sc22 rfl (fun w h => h.cell 0 rfl rfl)) ?_
  refine WP.val rfl rfl rfl (Val.assign rfl rfl) ?_
  refine WP.nil ?_
  refine Out.next ?_
  refine WPc.ret ?_
  refine Out.perm pl1 ?_
  refine Out.conv (fun w h => Sat.ptrMk h) ?_
  refine Out.perm pl1 ?_
  refine Out.conv (fun w h => Sat.ptrMk h) ?_
  refine Out.perm pl3 ?_
  refine Out.perm pl1 ?_
  refine Out.perm pl2 ?_
  refine Out.perm pl3 ?_
  exact Out.ret1 (L' := [Rec rb (some tx) (some cx) d]) Tryd.results23 rfl ⟨rfl, rfl⟩ (fun w h => rec_mk h)
set_option maxRecDepth 100000 in
set_option maxHeartbeats 2000000 in
theorem reset_spec (rb : Nat) (t0 c0 : Option Int) (d0 : List UInt8) : Does Tryd.prog 65 [.pointer (some ⟨rb, 0, none⟩)] [Rec rb t0 c0 d0] (fun v L => L = [Rec rb none none []]) := by
  refine Does.enter 5 Tryd.func65 rfl rfl rfl fun W F => ?_
  show WPc _ _ _ _ _ [(0, .pointer (some ⟨rb, 0, none⟩))] (Rec rb t0 c0 d0 :: F)
  refine WPc.open (fun w h => rec_open h) ?_
  rintro ⟨tv0, cv0, dv0⟩
  show WPc _ _ _ _ _ _ (Blk rb [tv0, cv0, dv0] 59 :: PtrO 2 tv0 (t0.map (Value.int .i64)) :: PtrO 22 cv0 (c0.map (Value.int .u32)) :: Own 5 1 dv0 d0.length (byt d0) :: F)
  refine WPc.region ?_
  refine WP.val rfl rfl rfl (Val.move rfl rfl) ?_
  refine WP.val rfl rfl rfl (Val.mk (cs := [.pointer none, .pointer none, .slice none 0 0]) rfl rfl (fun _ => by kernel_rfl)) ?_
  refine WP.val rfl rfl rfl (Val.nilCheck rfl rfl) ?_
  refine WP.eff0 rfl rfl (Eff.storeAgg (cs := [.pointer none, .pointer none, .slice none 0 0]) (C' := [.pointer none, .pointer none, .slice none 0 0]) rfl Ty.ag59 rfl rfl rfl rfl (by simp) rfl) ?_
  rintro _ _ rfl
  refine WP.nil ?_
  refine Out.perm pl1 ?_
  refine Out.drop ?_
  refine Out.perm pl1 ?_
  refine Out.drop ?_
  refine Out.perm pl1 ?_
  refine Out.drop ?_
  exact Out.end0 (L' := [Rec rb none none []]) Tryd.results65 rfl (fun w h => rec_mk (t := none) (c := none) (d := []) ((((Sat.ownNil (e := 5) (k := 1) h).ptrNil (T := 22)).ptrNil (T := 2)).perm pl3))
set_option maxRecDepth 100000 in
set_option maxHeartbeats 2000000 in
theorem valid_spec (rb : Nat) (tx cx : Int) (d : List UInt8) : Does Tryd.prog 82 [.pointer (some ⟨rb, 0, none⟩), .int .u32 (cx)] [Rec rb (some tx) (some cx) d] (fun v L => v = .nilIface ∧ L = [Rec rb (some tx) (some cx) d]) := by
  refine Does.enter 10 Tryd.func82 rfl rfl rfl fun W F => ?_
  show WPc _ _ _ _ _ [(0, .pointer (some ⟨rb, 0, none⟩)), (1, .int .u32 (cx))] (Rec rb (some tx) (some cx) d :: F)
  refine WPc.seq ?_
  refine WPc.region ?_
  refine WP.val rfl rfl rfl (Val.assign rfl rfl) ?_
  refine WP.nil ?_
  refine Out.next ?_
  refine WPc.seq ?_
  refine WPc.seq ?_
  refine WPc.region ?_
  refine WP.val rfl rfl rfl (Val.move rfl rfl) ?_
  refine WP.eff rfl rfl rfl (Eff.call rfl rfl Tryd.call23 (gcr_spec rb tx cx d)) ?_
  rintro _ _ ⟨_, ⟨rfl, rfl⟩, rfl⟩
  show WP _ _ _ _ _ _ _ (Rec rb (some tx) (some cx) d :: F)
  refine WP.val rfl rfl rfl (Val.move rfl rfl) ?_
  refine WP.val rfl rfl rfl (Val.eql rfl rfl rfl) ?_
  refine WP.nil ?_
  refine Out.next ?_
  refine WPc.ifP rfl (fun h1 => ?_) (fun h1 => ?_)
  · skip
    have h1 : (cx = cx) := h1
    refine WPc.seq ?_
    refine WPc.region ?_
    refine WP.val rfl rfl rfl (Val.assign rfl rfl) ?_
    refine WP.nil ?_
    refine Out.next ?_
    refine WPc.ret ?_
    refine Out.then_ret ?_
    exact Out.ret1 (L' := _) Tryd.results82 rfl ⟨rfl, rfl⟩ (fun _ h => h)
  · skip
    have h1 : ¬ (cx = cx) := h1
    exfalso; first | omega | contradiction

end Go.Proofs.YthicijpjpijdjaaDoor.Wk
