import Derived.Test.YthicijpjpijdjaaDoorWk
namespace Go.Proofs.YthicijpjpijdjaaDoor.Wl
open Go.RowKit Go.Proofs.YthicijpjpijdjaaDoor Go.Proofs.YthicijpjpijdjaaDoor.Sl Go.Proofs.YthicijpjpijdjaaDoor.Wa Go.Proofs.YthicijpjpijdjaaDoor.Wb Go.Proofs.YthicijpjpijdjaaDoor.Wc Go.Proofs.YthicijpjpijdjaaDoor.Wd Go.Proofs.YthicijpjpijdjaaDoor.We Go.Proofs.YthicijpjpijdjaaDoor.Wf Go.Proofs.YthicijpjpijdjaaDoor.Wg Go.Proofs.YthicijpjpijdjaaDoor.Wh Go.Proofs.YthicijpjpijdjaaDoor.Wi Go.Proofs.YthicijpjpijdjaaDoor.Wj Go.Proofs.YthicijpjpijdjaaDoor.Wk
set_option linter.unusedVariables false
set_option linter.unusedSimpArgs false
set_option linter.unusedSectionVars false


theorem pc123 : ptrC Tryd.prog 123 = true := by kernel_rfl
/-- a reader of a file's bytes, so far on -/
def Rdr (fb : Nat) (bs : List UInt8) (p : Nat) : HProp := Ex fun v : Value => Sep [Blk fb [v, .int .i64 ((p : Nat) : Int)] 97, Byts v bs]
theorem rdr_open {W w : World} {fb : Nat} {bs : List UInt8} {p : Nat} {L : List HProp} (h : Sat W (Rdr fb bs p :: L) w) : ∃ v : Value, Sat W (Blk fb [v, .int .i64 ((p : Nat) : Int)] 97 :: Byts v bs :: L) w := by
  obtain ⟨v, h⟩ := h.ex
  exact ⟨v, h.sep⟩
theorem rdr_mk {W w : World} {fb : Nat} {bs : List UInt8} {p : Nat} {v : Value} {L : List HProp} (h : Sat W (Blk fb [v, .int .i64 ((p : Nat) : Int)] 97 :: Byts v bs :: L) w) : Sat W (Rdr fb bs p :: L) w := Sat.ex_mk v (Sat.sep_mk h)
theorem byts_pos {W w : World} {v : Value} {l : List UInt8} {L : List HProp} (hp : 0 < l.length) (h : Sat W (Byts v l :: L) w) :
    ∃ q : Nat × Nat × Nat × List Value × TypeId, Sat W (Pure (v = .slice (some ⟨q.1, q.2.1, none⟩) l.length q.2.2.1 ∧ l.length ≤ q.2.2.1 ∧ (q.2.2.2.1.drop q.2.1).take (byt l).length = byt l) :: Ro (Blk q.1 q.2.2.2.1 q.2.2.2.2) :: L) w := by
  rcases h.byts with ⟨rfl, rfl, h⟩ | ⟨b, i, c, C, T, h1, h2, h3, h⟩
  · simp at hp
  · exact ⟨(b, i, c, C, T), Sat.pure_mk ⟨h1, h2, by rw [byt_length]; exact h3⟩ h⟩
theorem byts_one {W w : World} {v : Value} {l : List UInt8} {L : List HProp} (h : Sat W (Byts v l :: L) w) : v.oneCell' = true := by
  rcases h.byts with ⟨rfl, -, -⟩ | ⟨b, i, c, C, T, h1, -⟩
  · rfl
  · rw [h1]; rfl
set_option maxRecDepth 100000 in
set_option maxHeartbeats 2000000 in
theorem read_eof (fb pb : Nat) (ep : Addr) (bs : List UInt8) (p n : Nat) (C : List Value) (T : TypeId) (hn : 0 < n) (hn2 : n ≤ 4294967296) (hp : p = bs.length) (hbs : bs.length ≤ 4294967296) : Does Tryd.prog 96 [.pointer (some ⟨fb, 0, none⟩), .slice (some ⟨pb, 0, none⟩) n n] [Rdr fb bs p, Blk pb C T, Cel 0 0 (.iface 123 (.pointer (some ep)))] (fun v L => v = .tuple #[.int .i64 0, .iface 123 (.pointer (some ep))] ∧ L = [Rdr fb bs p, Blk pb C T, Cel 0 0 (.iface 123 (.pointer (some ep)))]) := by
  refine Does.enter 39 Tryd.func96 rfl rfl rfl fun W F => ?_
  show WPc _ _ _ _ _ [(0, .pointer (some ⟨fb, 0, none⟩)), (1, .slice (some ⟨pb, 0, none⟩) n n)] (Rdr fb bs p :: Blk pb C T :: Cel 0 0 (.iface 123 (.pointer (some ep))) :: F)
  refine WPc.seq ?_
  refine WPc.open (fun w h => rdr_open h) ?_
  rintro fv
  show WPc _ _ _ _ _ _ (Blk fb [fv, .int .i64 (((p : Nat) : Int))] 97 :: Byts fv bs :: Blk pb C T :: Cel 0 0 (.iface 123 (.pointer (some ep))) :: F)
  refine WPc.region ?_
  refine WP.val rfl rfl rfl (Val.assign rfl rfl) ?_
  refine WP.val rfl rfl rfl (Val.assign rfl rfl) ?_
  refine WP.nil ?_
  refine Out.next ?_
  refine WPc.seq ?_
  refine WPc.seq ?_
  refine WPD.start (Sat W (Blk fb [fv, .int .i64 (((p : Nat) : Int))] 97 :: Byts fv bs :: Blk pb C T :: Cel 0 0 (.iface 123 (.pointer (some ep))) :: F)) Ty.mixed ?_
  refine WPD.takeM 0 rfl rfl rfl rfl (by kernel_rfl) (by kernel_rfl) (by kernel_rfl) (by kernel_rfl) (fun _ _ _ h => h) (fun _ h => h) (Val.move rfl rfl) ?_
  refine WPD.takeM 1 rfl rfl rfl rfl (by kernel_rfl) (by kernel_rfl) (by kernel_rfl) (by kernel_rfl) (fun _ _ _ h => h) (fun _ h => h) (Val.nilCheck rfl rfl) ?_
  refine WPD.takeM 2 rfl rfl rfl rfl (by kernel_rfl) (by kernel_rfl) (by kernel_rfl) (by kernel_rfl) (fun _ _ _ h => h) (fun _ h => h) (Val.fieldAddr (j := 1) rfl Ty.fo97_1 rfl rfl) ?_
  refine WPD.take 3 rfl rfl rfl rfl (by kernel_rfl) (by kernel_rfl) (by kernel_rfl) (by kernel_rfl) (fun _ _ _ h => h) (by kernel_rfl) (fun _ h => h) (Val.load rfl Ty.sc3 rfl (fun w h => h.cell 0 rfl rfl)) ?_
  refine WPD.takeM 4 rfl rfl rfl rfl (by kernel_rfl) (by kernel_rfl) (by kernel_rfl) (by kernel_rfl) (fun _ _ _ h => h) (fun _ h => h) (Val.move rfl rfl) ?_
  refine WPD.takeM 5 rfl rfl rfl rfl (by kernel_rfl) (by kernel_rfl) (by kernel_rfl) (by kernel_rfl) (fun _ _ _ h => h) (fun _ h => h) (Val.nilCheck rfl rfl) ?_
  refine WPD.takeM 6 rfl rfl rfl rfl (by kernel_rfl) (by kernel_rfl) (by kernel_rfl) (by kernel_rfl) (fun _ _ _ h => h) (fun _ h => h) (Val.fieldAddr (j := 0) rfl Ty.fo97_0 rfl rfl) ?_
  refine WPD.take 7 rfl rfl rfl rfl (by kernel_rfl) (by kernel_rfl) (by kernel_rfl) (by kernel_rfl) (fun _ _ _ h => h) (by kernel_rfl) (fun _ h => h) (Val.load rfl Ty.sc40 rfl (fun w h => h.cell 0 rfl rfl)) ?_
  refine WPD.take 8 rfl rfl rfl rfl (by kernel_rfl) (by kernel_rfl) (by kernel_rfl) (by kernel_rfl) (fun _ _ _ h => h) (by kernel_rfl) (fun _ h => h) (Val.lenByts rfl Ty.sl40 rfl (fun w h => h.at 1 rfl)) ?_
  refine WPD.takeM 9 rfl rfl rfl rfl (by kernel_rfl) (by kernel_rfl) (by kernel_rfl) (by kernel_rfl) (fun _ _ _ h => h) (fun _ h => h) (Val.geq rfl rfl rfl) ?_
  refine WPD.done (by kernel_rfl) ?_
  refine Out.next ?_
  refine WPc.ifP rfl (fun h1 => ?_) (fun h1 => ?_)
  · skip
    have h1 : (((bs.length : Nat) : Int) ≤ ((p : Nat) : Int)) := h1
    refine WPc.seq ?_
    refine WPD.start (Sat W (Blk fb [fv, .int .i64 (((p : Nat) : Int))] 97 :: Byts fv bs :: Blk pb C T :: Cel 0 0 (.iface 123 (.pointer (some ep))) :: F)) Ty.mixed ?_
    refine WPD.take 0 rfl rfl rfl rfl (by kernel_rfl) (by kernel_rfl) (by kernel_rfl) (by kernel_rfl) (fun _ _ _ h => h) (by kernel_rfl) (fun _ h => h) (Val.load (v := .iface 123 (.pointer (some ep))) rfl Ty.sc61 rfl (fun w h => (h.at 3 rfl).cel)) ?_
    refine WPD.takeM 1 rfl rfl rfl rfl (by kernel_rfl) (by kernel_rfl) (by kernel_rfl) (by kernel_rfl) (fun _ _ _ h => h) (fun _ h => h) (Val.assign rfl rfl) ?_
    refine WPD.takeM 2 rfl rfl rfl rfl (by kernel_rfl) (by kernel_rfl) (by kernel_rfl) (by kernel_rfl) (fun _ _ _ h => h) (fun _ h => h) (Val.assign rfl rfl) ?_
    refine WPD.done (by kernel_rfl) ?_
    refine Out.next ?_
    refine WPc.ret ?_
    refine Out.then_ret ?_
    exact Out.ret2 (L' := [Rdr fb bs p, Blk pb C T, Cel 0 0 (.iface 123 (.pointer (some ep)))]) Tryd.results96 rfl rfl ⟨rfl, rfl⟩ (fun w h => rdr_mk h)
  · skip
    have h1 : ¬ (((bs.length : Nat) : Int) ≤ ((p : Nat) : Int)) := h1
    exfalso; omega
set_option maxRecDepth 100000 in
set_option maxHeartbeats 2000000 in
theorem read_full (fb pb : Nat) (bs : List UInt8) (p n : Nat) (C : List Value) (T : TypeId) (hC : C.length = n) (hn : 0 < n) (hfit : p + n ≤ bs.length) (hbs : bs.length ≤ 4294967296) : Does Tryd.prog 96 [.pointer (some ⟨fb, 0, none⟩), .slice (some ⟨pb, 0, none⟩) n n] [Rdr fb bs p, Blk pb C T] (fun v L => v = .tuple #[.int .i64 ((n : Nat) : Int), .nilIface] ∧ L = [Rdr fb bs (p + n), Blk pb (byt ((bs.drop p).take n)) T]) := by
  refine Does.enter 39 Tryd.func96 rfl rfl rfl fun W F => ?_
  show WPc _ _ _ _ _ [(0, .pointer (some ⟨fb, 0, none⟩)), (1, .slice (some ⟨pb, 0, none⟩) n n)] (Rdr fb bs p :: Blk pb C T :: F)
  refine WPc.seq ?_
  refine WPc.open (fun w h => rdr_open h) ?_
  rintro fv
  show WPc _ _ _ _ _ _ (Blk fb [fv, .int .i64 (((p : Nat) : Int))] 97 :: Byts fv bs :: Blk pb C T :: F)
  refine WPc.perm pl1 ?_
  refine WPc.open (fun w h => byts_pos (by omega) h) ?_
  rintro ⟨qb, qi, qc, qC, qT⟩
  refine WPc.pure (fun hq => ?_)
  obtain ⟨rfl, hqc, hqC⟩ := hq
  dsimp only at hqc hqC
  show WPc _ _ _ _ _ _ (Ro (Blk qb qC qT) :: Blk fb [.slice (some ⟨qb, qi, none⟩) bs.length qc, .int .i64 (((p : Nat) : Int))] 97 :: Blk pb C T :: F)
  refine WPc.region ?_
  refine WP.val rfl rfl rfl (Val.assign rfl rfl) ?_
  refine WP.val rfl rfl rfl (Val.assign rfl rfl) ?_
  refine WP.nil ?_
  refine Out.next ?_
  refine WPc.seq ?_
  refine WPc.seq ?_
  refine WPD.start (Sat W (Ro (Blk qb qC qT) :: Blk fb [.slice (some ⟨qb, qi, none⟩) bs.length qc, .int .i64 (((p : Nat) : Int))] 97 :: Blk pb C T :: F)) Ty.mixed ?_
  refine WPD.takeM 0 rfl rfl rfl rfl (by kernel_rfl) (by kernel_rfl) (by kernel_rfl) (by kernel_rfl) (fun _ _ _ h => h) (fun _ h => h) (Val.move rfl rfl) ?_
  refine WPD.takeM 1 rfl rfl rfl rfl (by kernel_rfl) (by kernel_rfl) (by kernel_rfl) (by kernel_rfl) (fun _ _ _ h => h) (fun _ h => h) (Val.nilCheck rfl rfl) ?_
  refine WPD.takeM 2 rfl rfl rfl rfl (by kernel_rfl) (by kernel_rfl) (by kernel_rfl) (by kernel_rfl) (fun _ _ _ h => h) (fun _ h => h) (Val.fieldAddr (j := 1) rfl Ty.fo97_1 rfl rfl) ?_
  refine WPD.take 3 rfl rfl rfl rfl (by kernel_rfl) (by kernel_rfl) (by kernel_rfl) (by kernel_rfl) (fun _ _ _ h => h) (by kernel_rfl) (fun _ h => h) (Val.load rfl Ty.sc3 rfl (fun w h => h.cell 1 rfl rfl)) ?_
  refine WPD.takeM 4 rfl rfl rfl rfl (by kernel_rfl) (by kernel_rfl) (by kernel_rfl) (by kernel_rfl) (fun _ _ _ h => h) (fun _ h => h) (Val.move rfl rfl) ?_
  refine WPD.takeM 5 rfl rfl rfl rfl (by kernel_rfl) (by kernel_rfl) (by kernel_rfl) (by kernel_rfl) (fun _ _ _ h => h) (fun _ h => h) (Val.nilCheck rfl rfl) ?_
  refine WPD.takeM 6 rfl rfl rfl rfl (by kernel_rfl) (by kernel_rfl) (by kernel_rfl) (by kernel_rfl) (fun _ _ _ h => h) (fun _ h => h) (Val.fieldAddr (j := 0) rfl Ty.fo97_0 rfl rfl) ?_
  refine WPD.take 7 rfl rfl rfl rfl (by kernel_rfl) (by kernel_rfl) (by kernel_rfl) (by kernel_rfl) (fun _ _ _ h => h) (by kernel_rfl) (fun _ h => h) (Val.load rfl Ty.sc40 rfl (fun w h => h.cell 1 rfl rfl)) ?_
  refine WPD.take 8 rfl rfl rfl rfl (by kernel_rfl) (by kernel_rfl) (by kernel_rfl) (by kernel_rfl) (fun _ _ _ h => h) (by kernel_rfl) (fun _ h => h) (Val.len rfl Ty.sl40 rfl) ?_
  refine WPD.takeM 9 rfl rfl rfl rfl (by kernel_rfl) (by kernel_rfl) (by kernel_rfl) (by kernel_rfl) (fun _ _ _ h => h) (fun _ h => h) (Val.geq rfl rfl rfl) ?_
  refine WPD.done (by kernel_rfl) ?_
  refine Out.next ?_
  refine WPc.ifP rfl (fun h1 => ?_) (fun h1 => ?_)
  · skip
    have h1 : (((bs.length : Nat) : Int) ≤ ((p : Nat) : Int)) := h1
    exfalso; omega
  · skip
    have h1 : ¬ (((bs.length : Nat) : Int) ≤ ((p : Nat) : Int)) := h1
    refine WPc.skip ?_
    refine Out.next ?_
    refine WPc.seq ?_
    refine WPD.start (Sat W (Ro (Blk qb qC qT) :: Blk fb [.slice (some ⟨qb, qi, none⟩) bs.length qc, .int .i64 (((p : Nat) : Int))] 97 :: Blk pb C T :: F)) Ty.mixed ?_
    refine WPD.takeM 0 rfl rfl rfl rfl (by kernel_rfl) (by kernel_rfl) (by kernel_rfl) (by kernel_rfl) (fun _ _ _ h => h) (fun _ h => h) (Val.move rfl rfl) ?_
    refine WPD.takeM 1 rfl rfl rfl rfl (by kernel_rfl) (by kernel_rfl) (by kernel_rfl) (by kernel_rfl) (fun _ _ _ h => h) (fun _ h => h) (Val.move rfl rfl) ?_
    refine WPD.takeM 2 rfl rfl rfl rfl (by kernel_rfl) (by kernel_rfl) (by kernel_rfl) (by kernel_rfl) (fun _ _ _ h => h) (fun _ h => h) (Val.nilCheck rfl rfl) ?_
    refine WPD.takeM 3 rfl rfl rfl rfl (by kernel_rfl) (by kernel_rfl) (by kernel_rfl) (by kernel_rfl) (fun _ _ _ h => h) (fun _ h => h) (Val.fieldAddr (j := 0) rfl Ty.fo97_0 rfl rfl) ?_
    refine WPD.take 4 rfl rfl rfl rfl (by kernel_rfl) (by kernel_rfl) (by kernel_rfl) (by kernel_rfl) (fun _ _ _ h => h) (by kernel_rfl) (fun _ h => h) (Val.load rfl Ty.sc40 rfl (fun w h => h.cell 1 rfl rfl)) ?_
    refine WPD.takeM 5 rfl rfl rfl rfl (by kernel_rfl) (by kernel_rfl) (by kernel_rfl) (by kernel_rfl) (fun _ _ _ h => h) (fun _ h => h) (Val.move rfl rfl) ?_
    refine WPD.takeM 6 rfl rfl rfl rfl (by kernel_rfl) (by kernel_rfl) (by kernel_rfl) (by kernel_rfl) (fun _ _ _ h => h) (fun _ h => h) (Val.nilCheck rfl rfl) ?_
    refine WPD.takeM 7 rfl rfl rfl rfl (by kernel_rfl) (by kernel_rfl) (by kernel_rfl) (by kernel_rfl) (fun _ _ _ h => h) (fun _ h => h) (Val.fieldAddr (j := 1) rfl Ty.fo97_1 rfl rfl) ?_
    refine WPD.take 8 rfl rfl rfl rfl (by kernel_rfl) (by kernel_rfl) (by kernel_rfl) (by kernel_rfl) (fun _ _ _ h => h) (by kernel_rfl) (fun _ h => h) (Val.load rfl Ty.sc3 rfl (fun w h => h.cell 1 rfl rfl)) ?_
    refine WPD.takeM 9 rfl rfl rfl rfl (by kernel_rfl) (by kernel_rfl) (by kernel_rfl) (by kernel_rfl) (fun _ _ _ h => h) (fun _ h => h) (Val.slice (lo := p) (hi := bs.length) (j := (if qc = p then qi else qi + p)) (vlo := some (.i64, ((p : Nat) : Int))) (vhi := none) rfl Ty.sl40 rfl rfl rfl (by simp [bnd]; try omega) (by simp [bnd]; try omega) (by omega) (by omega) (by omega) (by simp)) ?_
    refine WPD.perm pl2 ?_
    refine WPD.stepC 10 (by kernel_rfl) rfl rfl rfl rfl (by kernel_rfl) (Eff.copyFill (cs := byt ((bs.drop p).take n)) (C' := byt ((bs.drop p).take n)) rfl Ty.sl40 rfl rfl (fun w h => rangeAt_take (rangeAt_cut (h.rangeRo 1 rfl hqC) hqc)) (by rw [byt_length, List.length_take, List.length_drop]; omega) (by omega) (byt_one _) (by omega) (by rw [List.drop_eq_nil_of_le (show C.length ≤ 0 + n by omega), List.append_nil]; rfl)) ?_
    rintro _ _ ⟨rfl, rfl⟩
    refine ⟨(Sat W (Blk pb (byt ((bs.drop p).take n)) T :: Ro (Blk qb qC qT) :: Blk fb [.slice (some ⟨qb, qi, none⟩) bs.length qc, .int .i64 (((p : Nat) : Int))] 97 :: F)), (fun _ h => h), ?_⟩
    refine WPD.takeM 11 rfl rfl rfl rfl (by kernel_rfl) (by kernel_rfl) (by kernel_rfl) (by kernel_rfl) (fun _ _ _ h => h) (fun _ h => h) (Val.assign rfl rfl) ?_
    refine WPD.done (by kernel_rfl) ?_
    refine Out.next ?_
    refine WPc.seq ?_
    refine WPc.region ?_
    refine WP.val rfl rfl rfl (Val.move rfl rfl) ?_
    refine WP.val rfl rfl rfl (Val.move rfl rfl) ?_
    refine WP.val rfl rfl rfl (Val.nilCheck rfl rfl) ?_
    refine WP.val rfl rfl rfl (Val.fieldAddr (j := 1) rfl Ty.fo97_1 rfl rfl) ?_
    refine WP.val rfl rfl rfl (Val.load rfl Ty.sc3 rfl (fun w h => h.cell 2 rfl rfl)) ?_
    refine WP.val rfl rfl rfl (Val.move rfl rfl) ?_
    refine WP.val rfl rfl rfl (Val.add (z := ((p + n : Nat) : Int)) rfl rfl rfl ((w64 (by omega) (by omega)).trans (by omega))) ?_
    refine WP.val rfl rfl rfl (Val.nilCheck rfl rfl) ?_
    refine WP.val rfl rfl rfl (Val.fieldAddr (j := 1) rfl Ty.fo97_1 rfl rfl) ?_
    refine WP.perm pl2 ?_
    refine WP.eff0 rfl rfl (Eff.store rfl Ty.sc3 rfl rfl rfl (by simp) st1) ?_
    rintro _ _ rfl
    refine WP.nil ?_
    refine Out.next ?_
    refine WPc.seq ?_
    refine WPc.region ?_
    refine WP.val rfl rfl rfl (Val.move rfl rfl) ?_
    refine WP.val rfl rfl rfl (Val.assign rfl rfl) ?_
    refine WP.val rfl rfl rfl (Val.assign rfl rfl) ?_
    refine WP.nil ?_
    refine Out.next ?_
    refine WPc.ret ?_
    refine Out.perm pl2 ?_
    refine Out.conv (fun w h => Sat.bytsMk (l := bs) h hqc (by rw [byt_length] at hqC; exact hqC)) ?_
    refine Out.perm pl2 ?_
    refine Out.perm pl1 ?_
    refine Out.perm pl2 ?_
    exact Out.ret2 (L' := [Rdr fb bs (p + n), Blk pb (byt ((bs.drop p).take n)) T]) Tryd.results96 rfl rfl ⟨rfl, rfl⟩ (fun w h => rdr_mk h)
set_option maxRecDepth 100000 in
set_option maxHeartbeats 2000000 in
theorem ral_full (fb pb : Nat) (bs : List UInt8) (p n : Nat) (C : List Value) (T : TypeId) (hC : C.length = n) (hn : 0 < n) (hfit : p + n ≤ bs.length) (hbs : bs.length ≤ 4294967296) : Does Tryd.prog 85 [.iface 81 (.pointer (some ⟨fb, 0, none⟩)), .slice (some ⟨pb, 0, none⟩) n n, .int .i64 (((n : Nat) : Int))] [Rdr fb bs p, Blk pb C T] (fun v L => v = .tuple #[.int .i64 ((n : Nat) : Int), .nilIface] ∧ L = [Rdr fb bs (p + n), Blk pb (byt ((bs.drop p).take n)) T]) := by
  refine Does.enter 46 Tryd.func85 rfl rfl rfl fun W F => ?_
  show WPc _ _ _ _ _ [(0, .iface 81 (.pointer (some ⟨fb, 0, none⟩))), (1, .slice (some ⟨pb, 0, none⟩) n n), (2, .int .i64 (((n : Nat) : Int)))] (Rdr fb bs p :: Blk pb C T :: F)
  refine WPc.seq ?_
  refine WPc.region ?_
  refine WP.val rfl rfl rfl (Val.assign rfl rfl) ?_
  refine WP.val rfl rfl rfl (Val.assign rfl rfl) ?_
  refine WP.nil ?_
  refine Out.next ?_
  refine WPc.seq ?_
  refine WPc.seq ?_
  refine WPc.region ?_
  refine WP.val rfl rfl rfl (Val.move rfl rfl) ?_
  refine WP.val rfl rfl rfl (Val.len rfl Ty.sl40 rfl) ?_
  refine WP.val rfl rfl rfl (Val.move rfl rfl) ?_
  refine WP.val rfl rfl rfl (Val.lss rfl rfl rfl) ?_
  refine WP.nil ?_
  refine Out.next ?_
  refine WPc.ifP rfl (fun h1 => ?_) (fun h1 => ?_)
  · skip
    have h1 : (((n : Nat) : Int) < ((n : Nat) : Int)) := h1
    exfalso; omega
  · skip
    have h1 : ¬ (((n : Nat) : Int) < ((n : Nat) : Int)) := h1
    refine WPc.skip ?_
    refine Out.next ?_
    refine WPc.seq ?_
    refine WPc.block ?_
    refine WPc.loop (ι := Nat × Nat × Value × List Value × Nat) (fun ⟨j, k, e, X, q⟩ => (j = 0 ∧ k = 0 ∧ e = .nilIface ∧ X = C ∧ q = p) ∨ (j = 1 ∧ k = n ∧ e = .nilIface ∧ X = byt ((bs.drop p).take n) ∧ q = p + n)) (fun ⟨j, k, e, X, q⟩ => [(0, .iface 81 (.pointer (some ⟨fb, 0, none⟩))), (1, .slice (some ⟨pb, 0, none⟩) n n), (2, .int .i64 (((n : Nat) : Int))), (6, .int .i64 (((k : Nat) : Int))), (7, e)]) (fun ⟨j, k, e, X, q⟩ => Rdr fb bs q :: Blk pb X T :: F) (fun ⟨j, k, e, X, q⟩ => 1 - j) (0, 0, .nilIface, C, p) (.inl ⟨rfl, rfl, rfl, rfl, rfl⟩) ((Sub.cons rfl (Sub.cons rfl (Sub.cons rfl (Sub.cons rfl (Sub.cons rfl Sub.nil)))))) (fun _ h => h) ?_
    rintro ⟨j, k, e, X, q⟩ hI
    show WPc _ _ _ _ _ [(0, .iface 81 (.pointer (some ⟨fb, 0, none⟩))), (1, .slice (some ⟨pb, 0, none⟩) n n), (2, .int .i64 (((n : Nat) : Int))), (6, .int .i64 (((k : Nat) : Int))), (7, e)] (Rdr fb bs q :: Blk pb X T :: F)
    refine WPc.seq ?_
    refine WPc.seq ?_
    rcases hI with ⟨h1, h2, h3, h4, h5⟩ | ⟨h1, h2, h3, h4, h5⟩ <;> subst h1 <;> rw [h2, h3, h4, h5]
    · skip
      show WPc _ _ _ _ _ [(0, .iface 81 (.pointer (some ⟨fb, 0, none⟩))), (1, .slice (some ⟨pb, 0, none⟩) n n), (2, .int .i64 ((n : Nat) : Int)), (6, .int .i64 0), (7, .nilIface)] (Rdr fb bs p :: Blk pb C T :: F)
      refine WPc.region ?_
      refine WP.val rfl rfl rfl (Val.move rfl rfl) ?_
      refine WP.val rfl rfl rfl (Val.move rfl rfl) ?_
      refine WP.val rfl rfl rfl (Val.lss rfl rfl rfl) ?_
      refine WP.val rfl rfl rfl (Val.move rfl rfl) ?_
      refine WP.split 17 rfl (fun h2 => ?_) (fun h2 => ?_)
      · skip
        have h2 : ((0 : Int) < ((n : Nat) : Int)) := h2
        refine WP.valG rfl rfl rfl rfl rfl rfl rfl (Val.move rfl rfl) ?_
        refine WP.valG rfl rfl rfl rfl rfl rfl rfl (Val.nilI rfl Ty.if61 rfl) ?_
        refine WP.val rfl rfl rfl (Val.pickT rfl rfl rfl) ?_
        refine WP.nil ?_
        refine Out.next ?_
        refine WPc.condT rfl rfl ?_
        refine WPc.skip ?_
        refine Out.next ?_
        refine WPc.block ?_
        refine WPc.seq ?_
        refine WPc.region ?_
        refine WP.val rfl rfl rfl (Val.assign rfl rfl) ?_
        refine WP.nil ?_
        refine Out.next ?_
        refine WPc.seq ?_
        refine WPD.start (Sat W (Rdr fb bs p :: Blk pb C T :: F)) Ty.mixed ?_
        refine WPD.takeM 0 rfl rfl rfl rfl (by kernel_rfl) (by kernel_rfl) (by kernel_rfl) (by kernel_rfl) (fun _ _ _ h => h) (fun _ h => h) (Val.move rfl rfl) ?_
        refine WPD.takeM 1 rfl rfl rfl rfl (by kernel_rfl) (by kernel_rfl) (by kernel_rfl) (by kernel_rfl) (fun _ _ _ h => h) (fun _ h => h) (Val.move rfl rfl) ?_
        refine WPD.takeM 2 rfl rfl rfl rfl (by kernel_rfl) (by kernel_rfl) (by kernel_rfl) (by kernel_rfl) (fun _ _ _ h => h) (fun _ h => h) (Val.move rfl rfl) ?_
        refine WPD.takeM 3 rfl rfl rfl rfl (by kernel_rfl) (by kernel_rfl) (by kernel_rfl) (by kernel_rfl) (fun _ _ _ h => h) (fun _ h => h) (Val.slice (lo := 0) (hi := n) (j := 0) (vlo := some (.i64, (0 : Int))) (vhi := none) rfl Ty.sl40 rfl rfl rfl (by simp [bnd]; try omega) (by simp [bnd]; try omega) (by omega) (by omega) (by omega) (by simp)) ?_
        refine WPD.take 4 rfl rfl rfl rfl (by kernel_rfl) (by kernel_rfl) (by kernel_rfl) (by kernel_rfl) (fun _ _ _ h => h) (by kernel_rfl) (fun _ h => h) (Val.mkFunc rfl rfl rfl) ?_
        refine WPD.takeM 5 rfl rfl rfl rfl (by kernel_rfl) (by kernel_rfl) (by kernel_rfl) (by kernel_rfl) (fun _ _ _ h => h) (fun _ h => h) (Val.nilCheckM rfl rfl (by kernel_rfl)) ?_
        refine WPD.takeM 6 rfl rfl rfl rfl (by kernel_rfl) (by kernel_rfl) (by kernel_rfl) (by kernel_rfl) (fun _ _ _ h => h) (fun _ h => h) (Val.move rfl rfl) ?_
        refine WPD.perm pl1 ?_
        refine WPD.perm pl1 ?_
        refine WPD.stepC 7 (by kernel_rfl) rfl rfl rfl rfl (by kernel_rfl) (Eff.invoke (f := 96) rfl rfl rfl (fun _ => by kernel_rfl) Tryd.call96 (read_full fb pb bs p n C T hC hn hfit hbs)) ?_
        rintro _ _ ⟨_, ⟨rfl, rfl⟩, rfl⟩
        refine ⟨(Sat W (Rdr fb bs (p + n) :: Blk pb (byt ((bs.drop p).take n)) T :: F)), (fun _ h => h), ?_⟩
        show WPD _ _ _ _ _ _ _ _ _ (Rdr fb bs (p + n) :: Blk pb (byt ((bs.drop p).take n)) T :: F)
        refine WPD.takeM 8 rfl rfl rfl rfl (by kernel_rfl) (by kernel_rfl) (by kernel_rfl) (by kernel_rfl) (fun _ _ _ h => h) (fun _ h => h) (Val.move rfl rfl) ?_
        refine WPD.takeM 9 rfl rfl rfl rfl (by kernel_rfl) (by kernel_rfl) (by kernel_rfl) (by kernel_rfl) (fun _ _ _ h => h) (fun _ h => h) (Val.extract rfl rfl rfl) ?_
        refine WPD.takeM 10 rfl rfl rfl rfl (by kernel_rfl) (by kernel_rfl) (by kernel_rfl) (by kernel_rfl) (fun _ _ _ h => h) (fun _ h => h) (Val.extract rfl rfl rfl) ?_
        refine WPD.takeM 11 rfl rfl rfl rfl (by kernel_rfl) (by kernel_rfl) (by kernel_rfl) (by kernel_rfl) (fun _ _ _ h => h) (fun _ h => h) (Val.assign rfl rfl) ?_
        refine WPD.takeM 12 rfl rfl rfl rfl (by kernel_rfl) (by kernel_rfl) (by kernel_rfl) (by kernel_rfl) (fun _ _ _ h => h) (fun _ h => h) (Val.assign rfl rfl) ?_
        refine WPD.done (by kernel_rfl) ?_
        refine Out.next ?_
        refine WPc.region ?_
        refine WP.val rfl rfl rfl (Val.move rfl rfl) ?_
        refine WP.val rfl rfl rfl (Val.move rfl rfl) ?_
        refine WP.val rfl rfl rfl (Val.add (z := ((0 + n : Nat) : Int)) rfl rfl rfl ((w64 (by omega) (by omega)).trans (by omega))) ?_
        refine WP.val rfl rfl rfl (Val.assign rfl rfl) ?_
        refine WP.nil ?_
        refine Out.block ?_
        refine Out.again (1, n, .nilIface, byt ((bs.drop p).take n), p + n) ?_ ?_ ?_ ?_
        · exact (.inr ⟨rfl, rfl, rfl, rfl, rfl⟩)
        · (show 1 - 1 < 1 - 0; decide)
        · exact (Sub.cons rfl (Sub.cons rfl (Sub.cons rfl (Sub.cons (by rw [Nat.zero_add]; rfl) (Sub.cons rfl Sub.nil)))))
        · exact (fun _ h => h)
      · skip
        have h2 : ¬ ((0 : Int) < ((n : Nat) : Int)) := h2
        exfalso; omega
    · skip
      show WPc _ _ _ _ _ [(0, .iface 81 (.pointer (some ⟨fb, 0, none⟩))), (1, .slice (some ⟨pb, 0, none⟩) n n), (2, .int .i64 ((n : Nat) : Int)), (6, .int .i64 (((n : Nat) : Int))), (7, .nilIface)] (Rdr fb bs (p + n) :: Blk pb (byt ((bs.drop p).take n)) T :: F)
      refine WPc.region ?_
      refine WP.val rfl rfl rfl (Val.move rfl rfl) ?_
      refine WP.val rfl rfl rfl (Val.move rfl rfl) ?_
      refine WP.val rfl rfl rfl (Val.lss rfl rfl rfl) ?_
      refine WP.val rfl rfl rfl (Val.move rfl rfl) ?_
      refine WP.split 17 rfl (fun h3 => ?_) (fun h3 => ?_)
      · skip
        have h3 : (((n : Nat) : Int) < ((n : Nat) : Int)) := h3
        exfalso; omega
      · skip
        have h3 : ¬ (((n : Nat) : Int) < ((n : Nat) : Int)) := h3
        refine WP.skip rfl rfl rfl rfl rfl rfl rfl ?_
        refine WP.skip rfl rfl rfl rfl rfl rfl rfl ?_
        refine WP.val rfl rfl rfl (Val.pickF rfl rfl rfl) ?_
        refine WP.nil ?_
        refine Out.next ?_
        refine WPc.condF rfl rfl ?_
        refine WPc.exit ?_
        refine Out.then_exit ?_
        refine Out.then_exit ?_
        refine Out.block_exit ?_
        refine Out.next ?_
        refine WPc.seq ?_
        refine WPc.seq ?_
        refine WPc.region ?_
        refine WP.val rfl rfl rfl (Val.move rfl rfl) ?_
        refine WP.val rfl rfl rfl (Val.move rfl rfl) ?_
        refine WP.val rfl rfl rfl (Val.geq rfl rfl rfl) ?_
        refine WP.nil ?_
        refine Out.next ?_
        refine WPc.ifP rfl (fun h4 => ?_) (fun h4 => ?_)
        · skip
          have h4 : (((n : Nat) : Int) ≤ ((n : Nat) : Int)) := h4
          refine WPc.region ?_
          refine WP.val rfl rfl rfl (Val.assign rfl rfl) ?_
          refine WP.nil ?_
          refine Out.next ?_
          refine WPc.ret ?_
          exact Out.ret2 (L' := _) Tryd.results85 rfl rfl ⟨rfl, rfl⟩ (fun _ h => h)
        · skip
          have h4 : ¬ (((n : Nat) : Int) ≤ ((n : Nat) : Int)) := h4
          exfalso; omega
set_option maxRecDepth 100000 in
set_option maxHeartbeats 2000000 in
theorem ral_eof (fb pb : Nat) (ep : Addr) (bs : List UInt8) (p n : Nat) (C : List Value) (T : TypeId) (hn : 0 < n) (hn2 : n ≤ 4294967296) (hp : p = bs.length) (hbs : bs.length ≤ 4294967296) : Does Tryd.prog 85 [.iface 81 (.pointer (some ⟨fb, 0, none⟩)), .slice (some ⟨pb, 0, none⟩) n n, .int .i64 (((n : Nat) : Int))] [Rdr fb bs p, Blk pb C T, Cel 0 0 (.iface 123 (.pointer (some ep)))] (fun v L => v = .tuple #[.int .i64 0, .iface 123 (.pointer (some ep))] ∧ L = [Rdr fb bs p, Blk pb C T, Cel 0 0 (.iface 123 (.pointer (some ep)))]) := by
  refine Does.enter 46 Tryd.func85 rfl rfl rfl fun W F => ?_
  show WPc _ _ _ _ _ [(0, .iface 81 (.pointer (some ⟨fb, 0, none⟩))), (1, .slice (some ⟨pb, 0, none⟩) n n), (2, .int .i64 (((n : Nat) : Int)))] (Rdr fb bs p :: Blk pb C T :: Cel 0 0 (.iface 123 (.pointer (some ep))) :: F)
  refine WPc.seq ?_
  refine WPc.region ?_
  refine WP.val rfl rfl rfl (Val.assign rfl rfl) ?_
  refine WP.val rfl rfl rfl (Val.assign rfl rfl) ?_
  refine WP.nil ?_
  refine Out.next ?_
  refine WPc.seq ?_
  refine WPc.seq ?_
  refine WPc.region ?_
  refine WP.val rfl rfl rfl (Val.move rfl rfl) ?_
  refine WP.val rfl rfl rfl (Val.len rfl Ty.sl40 rfl) ?_
  refine WP.val rfl rfl rfl (Val.move rfl rfl) ?_
  refine WP.val rfl rfl rfl (Val.lss rfl rfl rfl) ?_
  refine WP.nil ?_
  refine Out.next ?_
  refine WPc.ifP rfl (fun h1 => ?_) (fun h1 => ?_)
  · skip
    have h1 : (((n : Nat) : Int) < ((n : Nat) : Int)) := h1
    exfalso; omega
  · skip
    have h1 : ¬ (((n : Nat) : Int) < ((n : Nat) : Int)) := h1
    refine WPc.skip ?_
    refine Out.next ?_
    refine WPc.seq ?_
    refine WPc.block ?_
    refine WPc.loop (ι := Nat × Nat × Value × List Value × Nat) (fun ⟨j, k, e, X, q⟩ => (j = 0 ∧ k = 0 ∧ e = .nilIface ∧ X = C ∧ q = p) ∨ (j = 1 ∧ k = 0 ∧ e = .iface 123 (.pointer (some ep)) ∧ X = C ∧ q = p)) (fun ⟨j, k, e, X, q⟩ => [(0, .iface 81 (.pointer (some ⟨fb, 0, none⟩))), (1, .slice (some ⟨pb, 0, none⟩) n n), (2, .int .i64 (((n : Nat) : Int))), (6, .int .i64 (((k : Nat) : Int))), (7, e)]) (fun ⟨j, k, e, X, q⟩ => Rdr fb bs q :: Blk pb X T :: Cel 0 0 (.iface 123 (.pointer (some ep))) :: F) (fun ⟨j, k, e, X, q⟩ => 1 - j) (0, 0, .nilIface, C, p) (.inl ⟨rfl, rfl, rfl, rfl, rfl⟩) ((Sub.cons rfl (Sub.cons rfl (Sub.cons rfl (Sub.cons rfl (Sub.cons rfl Sub.nil)))))) (fun _ h => h) ?_
    rintro ⟨j, k, e, X, q⟩ hI
    show WPc _ _ _ _ _ [(0, .iface 81 (.pointer (some ⟨fb, 0, none⟩))), (1, .slice (some ⟨pb, 0, none⟩) n n), (2, .int .i64 (((n : Nat) : Int))), (6, .int .i64 (((k : Nat) : Int))), (7, e)] (Rdr fb bs q :: Blk pb X T :: Cel 0 0 (.iface 123 (.pointer (some ep))) :: F)
    refine WPc.seq ?_
    refine WPc.seq ?_
    rcases hI with ⟨h1, h2, h3, h4, h5⟩ | ⟨h1, h2, h3, h4, h5⟩ <;> subst h1 <;> rw [h2, h3, h4, h5]
    · skip
      show WPc _ _ _ _ _ [(0, .iface 81 (.pointer (some ⟨fb, 0, none⟩))), (1, .slice (some ⟨pb, 0, none⟩) n n), (2, .int .i64 ((n : Nat) : Int)), (6, .int .i64 0), (7, .nilIface)] (Rdr fb bs p :: Blk pb C T :: Cel 0 0 (.iface 123 (.pointer (some ep))) :: F)
      refine WPc.region ?_
      refine WP.val rfl rfl rfl (Val.move rfl rfl) ?_
      refine WP.val rfl rfl rfl (Val.move rfl rfl) ?_
      refine WP.val rfl rfl rfl (Val.lss rfl rfl rfl) ?_
      refine WP.val rfl rfl rfl (Val.move rfl rfl) ?_
      refine WP.split 17 rfl (fun h2 => ?_) (fun h2 => ?_)
      · skip
        have h2 : ((0 : Int) < ((n : Nat) : Int)) := h2
        refine WP.valG rfl rfl rfl rfl rfl rfl rfl (Val.move rfl rfl) ?_
        refine WP.valG rfl rfl rfl rfl rfl rfl rfl (Val.nilI rfl Ty.if61 rfl) ?_
        refine WP.val rfl rfl rfl (Val.pickT rfl rfl rfl) ?_
        refine WP.nil ?_
        refine Out.next ?_
        refine WPc.condT rfl rfl ?_
        refine WPc.skip ?_
        refine Out.next ?_
        refine WPc.block ?_
        refine WPc.seq ?_
        refine WPc.region ?_
        refine WP.val rfl rfl rfl (Val.assign rfl rfl) ?_
        refine WP.nil ?_
        refine Out.next ?_
        refine WPc.seq ?_
        refine WPD.start (Sat W (Rdr fb bs p :: Blk pb C T :: Cel 0 0 (.iface 123 (.pointer (some ep))) :: F)) Ty.mixed ?_
        refine WPD.takeM 0 rfl rfl rfl rfl (by kernel_rfl) (by kernel_rfl) (by kernel_rfl) (by kernel_rfl) (fun _ _ _ h => h) (fun _ h => h) (Val.move rfl rfl) ?_
        refine WPD.takeM 1 rfl rfl rfl rfl (by kernel_rfl) (by kernel_rfl) (by kernel_rfl) (by kernel_rfl) (fun _ _ _ h => h) (fun _ h => h) (Val.move rfl rfl) ?_
        refine WPD.takeM 2 rfl rfl rfl rfl (by kernel_rfl) (by kernel_rfl) (by kernel_rfl) (by kernel_rfl) (fun _ _ _ h => h) (fun _ h => h) (Val.move rfl rfl) ?_
        refine WPD.takeM 3 rfl rfl rfl rfl (by kernel_rfl) (by kernel_rfl) (by kernel_rfl) (by kernel_rfl) (fun _ _ _ h => h) (fun _ h => h) (Val.slice (lo := 0) (hi := n) (j := 0) (vlo := some (.i64, (0 : Int))) (vhi := none) rfl Ty.sl40 rfl rfl rfl (by simp [bnd]; try omega) (by simp [bnd]; try omega) (by omega) (by omega) (by omega) (by simp)) ?_
        refine WPD.take 4 rfl rfl rfl rfl (by kernel_rfl) (by kernel_rfl) (by kernel_rfl) (by kernel_rfl) (fun _ _ _ h => h) (by kernel_rfl) (fun _ h => h) (Val.mkFunc rfl rfl rfl) ?_
        refine WPD.takeM 5 rfl rfl rfl rfl (by kernel_rfl) (by kernel_rfl) (by kernel_rfl) (by kernel_rfl) (fun _ _ _ h => h) (fun _ h => h) (Val.nilCheckM rfl rfl (by kernel_rfl)) ?_
        refine WPD.takeM 6 rfl rfl rfl rfl (by kernel_rfl) (by kernel_rfl) (by kernel_rfl) (by kernel_rfl) (fun _ _ _ h => h) (fun _ h => h) (Val.move rfl rfl) ?_
        refine WPD.perm pl2 ?_
        refine WPD.perm pl2 ?_
        refine WPD.perm pl2 ?_
        refine WPD.stepC 7 (by kernel_rfl) rfl rfl rfl rfl (by kernel_rfl) (Eff.invoke (f := 96) rfl rfl rfl (fun _ => by kernel_rfl) Tryd.call96 (read_eof fb pb ep bs p n C T hn hn2 hp hbs)) ?_
        rintro _ _ ⟨_, ⟨rfl, rfl⟩, rfl⟩
        refine ⟨(Sat W (Rdr fb bs p :: Blk pb C T :: Cel 0 0 (.iface 123 (.pointer (some ep))) :: F)), (fun _ h => h), ?_⟩
        show WPD _ _ _ _ _ _ _ _ _ (Rdr fb bs p :: Blk pb C T :: Cel 0 0 (.iface 123 (.pointer (some ep))) :: F)
        refine WPD.takeM 8 rfl rfl rfl rfl (by kernel_rfl) (by kernel_rfl) (by kernel_rfl) (by kernel_rfl) (fun _ _ _ h => h) (fun _ h => h) (Val.move rfl rfl) ?_
        refine WPD.takeM 9 rfl rfl rfl rfl (by kernel_rfl) (by kernel_rfl) (by kernel_rfl) (by kernel_rfl) (fun _ _ _ h => h) (fun _ h => h) (Val.extract rfl rfl rfl) ?_
        refine WPD.takeM 10 rfl rfl rfl rfl (by kernel_rfl) (by kernel_rfl) (by kernel_rfl) (by kernel_rfl) (fun _ _ _ h => h) (fun _ h => h) (Val.extract rfl rfl rfl) ?_
        refine WPD.takeM 11 rfl rfl rfl rfl (by kernel_rfl) (by kernel_rfl) (by kernel_rfl) (by kernel_rfl) (fun _ _ _ h => h) (fun _ h => h) (Val.assign rfl rfl) ?_
        refine WPD.takeM 12 rfl rfl rfl rfl (by kernel_rfl) (by kernel_rfl) (by kernel_rfl) (by kernel_rfl) (fun _ _ _ h => h) (fun _ h => h) (Val.assign rfl rfl) ?_
        refine WPD.done (by kernel_rfl) ?_
        refine Out.next ?_
        refine WPc.region ?_
        refine WP.val rfl rfl rfl (Val.move rfl rfl) ?_
        refine WP.val rfl rfl rfl (Val.move rfl rfl) ?_
        refine WP.val rfl rfl rfl (Val.add (z := 0) rfl rfl rfl (by rfl)) ?_
        refine WP.val rfl rfl rfl (Val.assign rfl rfl) ?_
        refine WP.nil ?_
        refine Out.block ?_
        refine Out.again (1, 0, .iface 123 (.pointer (some ep)), C, p) ?_ ?_ ?_ ?_
        · exact (.inr ⟨rfl, rfl, rfl, rfl, rfl⟩)
        · (show 1 - 1 < 1 - 0; decide)
        · exact (Sub.cons rfl (Sub.cons rfl (Sub.cons rfl (Sub.cons rfl (Sub.cons rfl Sub.nil)))))
        · exact (fun _ h => h)
      · skip
        have h2 : ¬ ((0 : Int) < ((n : Nat) : Int)) := h2
        exfalso; omega
    · skip
      show WPc _ _ _ _ _ [(0, .iface 81 (.pointer (some ⟨fb, 0, none⟩))), (1, .slice (some ⟨pb, 0, none⟩) n n), (2, .int .i64 ((n : Nat) : Int)), (6, .int .i64 0), (7, .iface 123 (.pointer (some ep)))] (Rdr fb bs p :: Blk pb C T :: Cel 0 0 (.iface 123 (.pointer (some ep))) :: F)
      refine WPc.region ?_
      refine WP.val rfl rfl rfl (Val.move rfl rfl) ?_
      refine WP.val rfl rfl rfl (Val.move rfl rfl) ?_
      refine WP.val rfl rfl rfl (Val.lss rfl rfl rfl) ?_
      refine WP.val rfl rfl rfl (Val.move rfl rfl) ?_
      refine WP.split 17 rfl (fun h3 => ?_) (fun h3 => ?_)
      · skip
        have h3 : ((0 : Int) < ((n : Nat) : Int)) := h3
        refine WP.valG rfl rfl rfl rfl rfl rfl rfl (Val.move rfl rfl) ?_
        refine WP.valG rfl rfl rfl rfl rfl rfl rfl (Val.someI rfl Ty.if61 rfl) ?_
        refine WP.val rfl rfl rfl (Val.pickT rfl rfl rfl) ?_
        refine WP.nil ?_
        refine Out.next ?_
        refine WPc.condF rfl rfl ?_
        refine WPc.exit ?_
        refine Out.then_exit ?_
        refine Out.then_exit ?_
        refine Out.block_exit ?_
        refine Out.next ?_
        refine WPc.seq ?_
        refine WPc.seq ?_
        refine WPc.region ?_
        refine WP.val rfl rfl rfl (Val.move rfl rfl) ?_
        refine WP.val rfl rfl rfl (Val.move rfl rfl) ?_
        refine WP.val rfl rfl rfl (Val.geq rfl rfl rfl) ?_
        refine WP.nil ?_
        refine Out.next ?_
        refine WPc.ifP rfl (fun h4 => ?_) (fun h4 => ?_)
        · skip
          have h4 : (((n : Nat) : Int) ≤ (0 : Int)) := h4
          exfalso; omega
        · skip
          have h4 : ¬ (((n : Nat) : Int) ≤ (0 : Int)) := h4
          refine WPc.seq ?_
          refine WPc.region ?_
          refine WP.val rfl rfl rfl (Val.move rfl rfl) ?_
          refine WP.val rfl rfl rfl (Val.boolK (q := false) (Val.gtr rfl rfl rfl) (by decide)) ?_
          refine WP.val rfl rfl rfl (Val.move rfl rfl) ?_
          refine WP.skip rfl rfl rfl rfl rfl rfl rfl ?_
          refine WP.skip rfl rfl rfl rfl rfl rfl rfl ?_
          refine WP.skip rfl rfl rfl rfl rfl rfl rfl ?_
          refine WP.val rfl rfl rfl (Val.pickF rfl rfl rfl) ?_
          refine WP.nil ?_
          refine Out.next ?_
          refine WPc.condF rfl rfl ?_
          refine WPc.skip ?_
          refine Out.next ?_
          refine WPc.ret ?_
          exact Out.ret2 (L' := _) Tryd.results85 rfl rfl ⟨rfl, rfl⟩ (fun _ h => h)
      · skip
        have h3 : ¬ ((0 : Int) < ((n : Nat) : Int)) := h3
        refine WP.skip rfl rfl rfl rfl rfl rfl rfl ?_
        refine WP.skip rfl rfl rfl rfl rfl rfl rfl ?_
        refine WP.val rfl rfl rfl (Val.pickF rfl rfl rfl) ?_
        refine WP.nil ?_
        refine Out.next ?_
        refine WPc.condF rfl rfl ?_
        refine WPc.exit ?_
        refine Out.then_exit ?_
        refine Out.then_exit ?_
        refine Out.block_exit ?_
        refine Out.next ?_
        refine WPc.seq ?_
        refine WPc.seq ?_
        refine WPc.region ?_
        refine WP.val rfl rfl rfl (Val.move rfl rfl) ?_
        refine WP.val rfl rfl rfl (Val.move rfl rfl) ?_
        refine WP.val rfl rfl rfl (Val.geq rfl rfl rfl) ?_
        refine WP.nil ?_
        refine Out.next ?_
        refine WPc.ifP rfl (fun h5 => ?_) (fun h5 => ?_)
        · skip
          have h5 : (((n : Nat) : Int) ≤ (0 : Int)) := h5
          exfalso; omega
        · skip
          have h5 : ¬ (((n : Nat) : Int) ≤ (0 : Int)) := h5
          refine WPc.seq ?_
          refine WPc.region ?_
          refine WP.val rfl rfl rfl (Val.move rfl rfl) ?_
          refine WP.val rfl rfl rfl (Val.boolK (q := false) (Val.gtr rfl rfl rfl) (by decide)) ?_
          refine WP.val rfl rfl rfl (Val.move rfl rfl) ?_
          refine WP.skip rfl rfl rfl rfl rfl rfl rfl ?_
          refine WP.skip rfl rfl rfl rfl rfl rfl rfl ?_
          refine WP.skip rfl rfl rfl rfl rfl rfl rfl ?_
          refine WP.val rfl rfl rfl (Val.pickF rfl rfl rfl) ?_
          refine WP.nil ?_
          refine Out.next ?_
          refine WPc.condF rfl rfl ?_
          refine WPc.skip ?_
          refine Out.next ?_
          refine WPc.ret ?_
          exact Out.ret2 (L' := _) Tryd.results85 rfl rfl ⟨rfl, rfl⟩ (fun _ h => h)
set_option maxRecDepth 100000 in
set_option maxHeartbeats 2000000 in
theorem rf_full (fb pb : Nat) (bs : List UInt8) (p n : Nat) (C : List Value) (T : TypeId) (hC : C.length = n) (hn : 0 < n) (hfit : p + n ≤ bs.length) (hbs : bs.length ≤ 4294967296) : Does Tryd.prog 79 [.iface 81 (.pointer (some ⟨fb, 0, none⟩)), .slice (some ⟨pb, 0, none⟩) n n] [Rdr fb bs p, Blk pb C T] (fun v L => v = .tuple #[.int .i64 ((n : Nat) : Int), .nilIface] ∧ L = [Rdr fb bs (p + n), Blk pb (byt ((bs.drop p).take n)) T]) := by
  refine Does.enter 13 Tryd.func79 rfl rfl rfl fun W F => ?_
  show WPc _ _ _ _ _ [(0, .iface 81 (.pointer (some ⟨fb, 0, none⟩))), (1, .slice (some ⟨pb, 0, none⟩) n n)] (Rdr fb bs p :: Blk pb C T :: F)
  refine WPc.seq ?_
  refine WPc.region ?_
  refine WP.val rfl rfl rfl (Val.assign rfl rfl) ?_
  refine WP.val rfl rfl rfl (Val.assign rfl rfl) ?_
  refine WP.nil ?_
  refine Out.next ?_
  refine WPc.seq ?_
  refine WPc.region ?_
  refine WP.val rfl rfl rfl (Val.move rfl rfl) ?_
  refine WP.val rfl rfl rfl (Val.move rfl rfl) ?_
  refine WP.val rfl rfl rfl (Val.move rfl rfl) ?_
  refine WP.val rfl rfl rfl (Val.len rfl Ty.sl40 rfl) ?_
  refine WP.perm pl1 ?_
  refine WP.perm pl1 ?_
  refine WP.eff rfl rfl rfl (Eff.call rfl rfl Tryd.call85 (ral_full fb pb bs p n C T hC hn hfit hbs)) ?_
  rintro _ _ ⟨_, ⟨rfl, rfl⟩, rfl⟩
  show WP _ _ _ _ _ _ _ (Rdr fb bs (p + n) :: Blk pb (byt ((bs.drop p).take n)) T :: F)
  refine WP.val rfl rfl rfl (Val.extract rfl rfl rfl) ?_
  refine WP.val rfl rfl rfl (Val.extract rfl rfl rfl) ?_
  refine WP.val rfl rfl rfl (Val.assign rfl rfl) ?_
  refine WP.val rfl rfl rfl (Val.assign rfl rfl) ?_
  refine WP.nil ?_
  refine Out.next ?_
  refine WPc.ret ?_
  exact Out.ret2 (L' := _) Tryd.results79 rfl rfl ⟨rfl, rfl⟩ (fun _ h => h)
set_option maxRecDepth 100000 in
set_option maxHeartbeats 2000000 in
theorem rf_eof (fb pb : Nat) (ep : Addr) (bs : List UInt8) (p n : Nat) (C : List Value) (T : TypeId) (hn : 0 < n) (hn2 : n ≤ 4294967296) (hp : p = bs.length) (hbs : bs.length ≤ 4294967296) : Does Tryd.prog 79 [.iface 81 (.pointer (some ⟨fb, 0, none⟩)), .slice (some ⟨pb, 0, none⟩) n n] [Rdr fb bs p, Blk pb C T, Cel 0 0 (.iface 123 (.pointer (some ep)))] (fun v L => v = .tuple #[.int .i64 0, .iface 123 (.pointer (some ep))] ∧ L = [Rdr fb bs p, Blk pb C T, Cel 0 0 (.iface 123 (.pointer (some ep)))]) := by
  refine Does.enter 13 Tryd.func79 rfl rfl rfl fun W F => ?_
  show WPc _ _ _ _ _ [(0, .iface 81 (.pointer (some ⟨fb, 0, none⟩))), (1, .slice (some ⟨pb, 0, none⟩) n n)] (Rdr fb bs p :: Blk pb C T :: Cel 0 0 (.iface 123 (.pointer (some ep))) :: F)
  refine WPc.seq ?_
  refine WPc.region ?_
  refine WP.val rfl rfl rfl (Val.assign rfl rfl) ?_
  refine WP.val rfl rfl rfl (Val.assign rfl rfl) ?_
  refine WP.nil ?_
  refine Out.next ?_
  refine WPc.seq ?_
  refine WPc.region ?_
  refine WP.val rfl rfl rfl (Val.move rfl rfl) ?_
  refine WP.val rfl rfl rfl (Val.move rfl rfl) ?_
  refine WP.val rfl rfl rfl (Val.move rfl rfl) ?_
  refine WP.val rfl rfl rfl (Val.len rfl Ty.sl40 rfl) ?_
  refine WP.perm pl2 ?_
  refine WP.perm pl2 ?_
  refine WP.perm pl2 ?_
  refine WP.eff rfl rfl rfl (Eff.call rfl rfl Tryd.call85 (ral_eof fb pb ep bs p n C T hn hn2 hp hbs)) ?_
  rintro _ _ ⟨_, ⟨rfl, rfl⟩, rfl⟩
  show WP _ _ _ _ _ _ _ (Rdr fb bs p :: Blk pb C T :: Cel 0 0 (.iface 123 (.pointer (some ep))) :: F)
  refine WP.val rfl rfl rfl (Val.extract rfl rfl rfl) ?_
  refine WP.val rfl rfl rfl (Val.extract rfl rfl rfl) ?_
  refine WP.val rfl rfl rfl (Val.assign rfl rfl) ?_
  refine WP.val rfl rfl rfl (Val.assign rfl rfl) ?_
  refine WP.nil ?_
  refine Out.next ?_
  refine WPc.ret ?_
  exact Out.ret2 (L' := _) Tryd.results79 rfl rfl ⟨rfl, rfl⟩ (fun _ h => h)

end Go.Proofs.YthicijpjpijdjaaDoor.Wl
