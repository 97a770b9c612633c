import Derived.Test.YthmkdioafjmclaaHo
import Derived.Test.YthmkdioafjmclaaSlOne
namespace Go.Proofs.Ythmkdioafjmclaa.Hx
open Go.RowKit Go.Proofs.Ythmkdioafjmclaa Go.Proofs.Ythmkdioafjmclaa.Sl Go.Proofs.Ythmkdioafjmclaa.Hc Go.Proofs.Ythmkdioafjmclaa.Hp Go.Proofs.Ythmkdioafjmclaa.Hm Go.Proofs.Ythmkdioafjmclaa.Hb Go.Proofs.Ythmkdioafjmclaa.Hk Go.Proofs.Ythmkdioafjmclaa.Hr Go.Proofs.Ythmkdioafjmclaa.Hy Go.Proofs.Ythmkdioafjmclaa.Hn Go.Proofs.Ythmkdioafjmclaa.Hw Go.Proofs.Ythmkdioafjmclaa.Hz Go.Proofs.Ythmkdioafjmclaa.Ho
set_option linter.unusedVariables false
set_option linter.unusedSimpArgs false
set_option linter.unusedSectionVars false


structure BV where
  v : Value
  d : List UInt8
def BV.cells (b : BV) : List Value := [b.v]
theorem BV.len (b : BV) : b.cells.length = 1 := rfl
def BvZ (b : BV) : HProp := Seq b.v b.d.length (byt b.d)
theorem bv_add {W w : World} {u : Value} {l : List UInt8} {bs : List BV} {L : List HProp} (h : Sat W (Seq u l.length (byt l) :: AllP BvZ bs :: L) w) : Sat W (AllP BvZ (bs ++ [⟨u, l⟩]) :: L) w :=
  Sat.allAdd (f := BvZ) (x := ⟨u, l⟩) Seq.pers (by
    intro y hy
    rcases List.mem_append.1 hy with h | h
    · exact .inr h
    · exact .inl (by simpa using h)) h
theorem kvz_get {W w : World} {z : ZR} {zs : List ZR} {L : List HProp} {i : Nat} (hz : zs[i]? = some z) (h : Sat W (AllP KvZ zs :: L) w) :
    ∃ q : (Nat × Nat × List Value) × (Nat × Nat × List Value), Sat W (Pure (z.x.kv.k.length ≤ q.1.2.1 ∧ z.x.kv.v.length ≤ q.2.2.1) :: Ro (Blk z.p [.slice (some ⟨q.1.1, 0, none⟩) z.x.kv.k.length q.1.2.1, .int .i64 z.x.kv.create, .int .i64 z.x.kv.mod, .int .i64 z.x.kv.ver, .slice (some ⟨q.2.1, 0, none⟩) z.x.kv.v.length q.2.2.1, .int .i64 z.x.kv.lease] 204) ::
      Ro (Blk q.1.1 (byt z.x.kv.k ++ q.1.2.2) 5) :: Ro (Blk q.2.1 (byt z.x.kv.v ++ q.2.2.2) 5) :: AllP KvZ zs :: L) w := by
  have h1 : Sat W (KvAt z.p z.x.kv :: AllP KvZ zs :: L) w := h.allGet (f := KvZ) (x := z) (List.mem_of_getElem? hz)
  obtain ⟨q, h2⟩ := h1.ex
  exact ⟨q, h2.sep⟩
set_option maxRecDepth 100000 in
set_option maxHeartbeats 1000000 in
theorem zz_nil (A : HProp) (a : Option Addr) (c : Nat) : Does Try.prog 66 [.slice a 0 c] [AllP KvZ (([] : List ZR)), A] (fun v L => ∃ bs1 bs2 v1 v2, bs1.map BV.d = ([] : List ZR).map (fun z => bkey z.x.m z.x.s z.x.gone) ∧ bs2.map BV.d = ([] : List ZR).map (fun z => marsh z.x.kv) ∧ v = .tuple #[v1, v2] ∧ L = [Own 86 1 v1 0 (flatOf BV.cells bs1), AllP BvZ bs1, Own 86 1 v2 0 (flatOf BV.cells bs2), AllP BvZ bs2, A]) := by
  refine Does.enter 37 Try.func66 rfl rfl rfl fun W F => ?_
  show WPc _ _ _ _ _ [(0, .slice a 0 c)] (AllP KvZ (([] : List ZR)) :: A :: F)
  refine WPc.seq ?_
  refine WPc.region ?_
  refine WP.val rfl rfl rfl (Val.assign rfl rfl) ?_
  refine WP.val rfl rfl rfl (Val.assign rfl rfl) ?_
  refine WP.nil ?_
  refine Out.next ?_
  refine WPc.seq ?_
  refine WPc.region ?_
  refine WP.val rfl rfl rfl (Val.assign rfl rfl) ?_
  refine WP.val rfl rfl rfl (Val.assign rfl rfl) ?_
  refine WP.nil ?_
  refine Out.next ?_
  refine WPc.seq ?_
  refine WPc.seq ?_
  refine WPc.conv (fun w h => Sat.allNil (f := BvZ) h) ?_
  refine WPc.conv (fun w h => h.ownNil (e := 86) (k := 1)) ?_
  refine WPc.conv (fun w h => Sat.allNil (f := BvZ) h) ?_
  refine WPc.conv (fun w h => h.ownNil (e := 86) (k := 1)) ?_
  show WPc _ _ _ _ _ _ (Own 86 1 (.slice none 0 0) 0 ([]) :: AllP BvZ (([] : List BV)) :: Own 86 1 (.slice none 0 0) 0 ([]) :: AllP BvZ (([] : List BV)) :: AllP KvZ (([] : List ZR)) :: A :: F)
  refine WPc.region ?_
  refine WP.val rfl rfl rfl (Val.move rfl rfl) ?_
  refine WP.val rfl rfl rfl (Val.len rfl Ty.sl113 rfl) ?_
  refine WP.val rfl rfl rfl (Val.move rfl rfl) ?_
  refine WP.nil ?_
  refine Out.next ?_
  refine WPc.block ?_
  refine WPc.loop (ι := Nat × List BV × List BV × Value × Value) (fun ⟨i, bs1, bs2, v1, v2⟩ => i ≤ (([] : List ZR)).length ∧ bs1.map BV.d = ((([] : List ZR)).take i).map (fun z => bkey z.x.m z.x.s z.x.gone) ∧ bs2.map BV.d = ((([] : List ZR)).take i).map (fun z => marsh z.x.kv)) (fun ⟨i, bs1, bs2, v1, v2⟩ => [(4, v1), (5, v2), (10, .slice a 0 c), (11, .int .i64 (((0 : Nat) : Int))), (12, .int .i64 (((i : Nat) : Int)))]) (fun ⟨i, bs1, bs2, v1, v2⟩ => Own 86 1 v1 i (flatOf BV.cells bs1) :: AllP BvZ bs1 :: Own 86 1 v2 i (flatOf BV.cells bs2) :: AllP BvZ bs2 :: AllP KvZ (([] : List ZR)) :: A :: F) (fun ⟨i, bs1, bs2, v1, v2⟩ => (([] : List ZR)).length - i) (0, [], [], .slice none 0 0, .slice none 0 0) ⟨Nat.zero_le _, rfl, rfl⟩ ((Sub.cons rfl (Sub.cons rfl (Sub.cons rfl (Sub.cons rfl (Sub.cons rfl Sub.nil)))))) (fun _ h => h) ?_
  rintro ⟨i, bs1, bs2, v1, v2⟩ ⟨hi, h1b, h2b⟩
  show WPc _ _ _ _ _ [(4, v1), (5, v2), (10, .slice a 0 c), (11, .int .i64 (((0 : Nat) : Int))), (12, .int .i64 (((i : Nat) : Int)))] (Own 86 1 v1 i (flatOf BV.cells bs1) :: AllP BvZ bs1 :: Own 86 1 v2 i (flatOf BV.cells bs2) :: AllP BvZ bs2 :: AllP KvZ (([] : List ZR)) :: A :: F)
  refine WPc.seq ?_
  refine WPc.region ?_
  refine WP.val rfl rfl rfl (Val.lss rfl rfl rfl) ?_
  refine WP.nil ?_
  refine Out.next ?_
  refine WPc.seq ?_
  refine WPc.ifP rfl (fun h1 => ?_) (fun h1 => ?_)
  · skip
    have h1 : (((i : Nat) : Int) < ((0 : Nat) : Int)) := h1
    exfalso; simp at *; omega
  · skip
    have h1 : ¬ (((i : Nat) : Int) < ((0 : Nat) : Int)) := h1
    refine WPc.exit ?_
    refine Out.then_exit ?_
    refine Out.then_exit ?_
    refine Out.block_exit ?_
    refine Out.next ?_
    refine WPc.seq ?_
    refine WPc.region ?_
    refine WP.val rfl rfl rfl (Val.move rfl rfl) ?_
    refine WP.val rfl rfl rfl (Val.move rfl rfl) ?_
    refine WP.val rfl rfl rfl (Val.assign rfl rfl) ?_
    refine WP.val rfl rfl rfl (Val.assign rfl rfl) ?_
    refine WP.nil ?_
    refine Out.next ?_
    refine WPc.ret ?_
    have hti2 : (([] : List ZR)).take i = ([] : List ZR) := List.take_of_length_le (by first | omega | (simp at *; try omega))
    have hil : i = (([] : List ZR)).length := by first | omega | (simp at *; omega)
    rw [hti2] at h1b h2b
    refine Out.perm pl4 ?_
    refine Out.drop ?_
    exact Out.ret2 (L' := _) Try.results66 rfl rfl ⟨bs1, bs2, v1, v2, h1b, h2b, rfl, rfl⟩ (fun w h => by rw [hil] at h; exact h)

set_option maxRecDepth 100000 in
set_option maxHeartbeats 1000000 in
theorem zz_row (A : HProp) (l : List ZR) (hl : l.length ≤ 100000) (hsz : ∀ z ∈ l, z.x.kv.k.length ≤ 100 ∧ z.x.kv.v.length ≤ 100) (b0 o0 c0 : Nat) (hr : ∀ w, Holds A w → ∀ i x, l[i]? = some x → w.rangeAt b0 (o0 + i * 4) (ZR.cells x)) : Does Try.prog 66 [.slice (some ⟨b0, o0, none⟩) l.length c0] [AllP KvZ l, A] (fun v L => ∃ bs1 bs2 v1 v2, bs1.map BV.d = l.map (fun z => bkey z.x.m z.x.s z.x.gone) ∧ bs2.map BV.d = l.map (fun z => marsh z.x.kv) ∧ v = .tuple #[v1, v2] ∧ L = [Own 86 1 v1 l.length (flatOf BV.cells bs1), AllP BvZ bs1, Own 86 1 v2 l.length (flatOf BV.cells bs2), AllP BvZ bs2, A]) := by
  refine Does.enter 37 Try.func66 rfl rfl rfl fun W F => ?_
  show WPc _ _ _ _ _ [(0, .slice (some ⟨b0, o0, none⟩) l.length c0)] (AllP KvZ l :: A :: F)
  refine WPc.seq ?_
  refine WPc.region ?_
  refine WP.val rfl rfl rfl (Val.assign rfl rfl) ?_
  refine WP.val rfl rfl rfl (Val.assign rfl rfl) ?_
  refine WP.nil ?_
  refine Out.next ?_
  refine WPc.seq ?_
  refine WPc.region ?_
  refine WP.val rfl rfl rfl (Val.assign rfl rfl) ?_
  refine WP.val rfl rfl rfl (Val.assign rfl rfl) ?_
  refine WP.nil ?_
  refine Out.next ?_
  refine WPc.seq ?_
  refine WPc.seq ?_
  refine WPc.conv (fun w h => Sat.allNil (f := BvZ) h) ?_
  refine WPc.conv (fun w h => h.ownNil (e := 86) (k := 1)) ?_
  refine WPc.conv (fun w h => Sat.allNil (f := BvZ) h) ?_
  refine WPc.conv (fun w h => h.ownNil (e := 86) (k := 1)) ?_
  show WPc _ _ _ _ _ _ (Own 86 1 (.slice none 0 0) 0 ([]) :: AllP BvZ (([] : List BV)) :: Own 86 1 (.slice none 0 0) 0 ([]) :: AllP BvZ (([] : List BV)) :: AllP KvZ l :: A :: F)
  refine WPc.region ?_
  refine WP.val rfl rfl rfl (Val.move rfl rfl) ?_
  refine WP.val rfl rfl rfl (Val.len rfl Ty.sl113 rfl) ?_
  refine WP.val rfl rfl rfl (Val.move rfl rfl) ?_
  refine WP.nil ?_
  refine Out.next ?_
  refine WPc.block ?_
  refine WPc.loop (ι := Nat × List BV × List BV × Value × Value) (fun ⟨i, bs1, bs2, v1, v2⟩ => i ≤ (l).length ∧ bs1.map BV.d = ((l).take i).map (fun z => bkey z.x.m z.x.s z.x.gone) ∧ bs2.map BV.d = ((l).take i).map (fun z => marsh z.x.kv)) (fun ⟨i, bs1, bs2, v1, v2⟩ => [(4, v1), (5, v2), (10, .slice (some ⟨b0, o0, none⟩) l.length c0), (11, .int .i64 (((l.length : Nat) : Int))), (12, .int .i64 (((i : Nat) : Int)))]) (fun ⟨i, bs1, bs2, v1, v2⟩ => Own 86 1 v1 i (flatOf BV.cells bs1) :: AllP BvZ bs1 :: Own 86 1 v2 i (flatOf BV.cells bs2) :: AllP BvZ bs2 :: AllP KvZ l :: A :: F) (fun ⟨i, bs1, bs2, v1, v2⟩ => (l).length - i) (0, [], [], .slice none 0 0, .slice none 0 0) ⟨Nat.zero_le _, rfl, rfl⟩ ((Sub.cons rfl (Sub.cons rfl (Sub.cons rfl (Sub.cons rfl (Sub.cons rfl Sub.nil)))))) (fun _ h => h) ?_
  rintro ⟨i, bs1, bs2, v1, v2⟩ ⟨hi, h1b, h2b⟩
  show WPc _ _ _ _ _ [(4, v1), (5, v2), (10, .slice (some ⟨b0, o0, none⟩) l.length c0), (11, .int .i64 (((l.length : Nat) : Int))), (12, .int .i64 (((i : Nat) : Int)))] (Own 86 1 v1 i (flatOf BV.cells bs1) :: AllP BvZ bs1 :: Own 86 1 v2 i (flatOf BV.cells bs2) :: AllP BvZ bs2 :: AllP KvZ l :: A :: F)
  refine WPc.seq ?_
  refine WPc.region ?_
  refine WP.val rfl rfl rfl (Val.lss rfl rfl rfl) ?_
  refine WP.nil ?_
  refine Out.next ?_
  refine WPc.seq ?_
  refine WPc.ifP rfl (fun h1 => ?_) (fun h1 => ?_)
  · skip
    have h1 : (((i : Nat) : Int) < ((l.length : Nat) : Int)) := h1
    refine WPc.skip ?_
    refine Out.next ?_
    refine WPc.seq ?_
    refine WPc.block ?_
    refine WPc.seq ?_
    have hlt : i < l.length := by omega
    obtain ⟨z, hx⟩ : ∃ z, l[i]? = some z := ⟨_, List.getElem?_eq_getElem hlt⟩
    have hzk := hsz z (List.mem_of_getElem? hx)
    refine WPc.region ?_
    refine WP.val rfl rfl rfl (Val.indexAddr (j := i) (q := o0 + i * 4) rfl Ty.sl113 rfl rfl (by omega) (by omega) (by omega)) ?_
    refine WP.val rfl rfl rfl (Val.loadAgg (cs := [.int .i64 (z.x.m), .int .i64 (z.x.s), .bool (z.x.gone), .pointer (some ⟨z.p, 0, none⟩)]) rfl Ty.ag164 rfl (by rfl) (fun w h => hr w (h.at 5 rfl) i z hx)) ?_
    refine WP.eff rfl rfl rfl (Eff.alloc rfl Ty.z164) ?_
    rintro _ _ ⟨b1, rfl, rfl⟩
    refine WP.eff0 rfl rfl (Eff.storeAgg (cs := [.int .i64 (z.x.m), .int .i64 (z.x.s), .bool (z.x.gone), .pointer (some ⟨z.p, 0, none⟩)]) (C' := [.int .i64 (z.x.m), .int .i64 (z.x.s), .bool (z.x.gone), .pointer (some ⟨z.p, 0, none⟩)]) rfl Ty.ag164 rfl rfl rfl rfl (by simp) rfl) ?_
    rintro _ _ rfl
    refine WP.nil ?_
    refine Out.next ?_
    refine WPc.seq ?_
    refine WPc.perm pl5 ?_
    refine WPc.open (fun w h => kvz_get hx h) ?_
    rintro ⟨⟨kb, kc, ks⟩, ⟨vb, vc, vs⟩⟩
    refine WPc.pure (fun hkc => ?_)
    show WPc _ _ _ _ _ _ (Ro (Blk z.p [.slice (some ⟨kb, 0, none⟩) z.x.kv.k.length kc, .int .i64 (z.x.kv.create), .int .i64 (z.x.kv.mod), .int .i64 (z.x.kv.ver), .slice (some ⟨vb, 0, none⟩) z.x.kv.v.length vc, .int .i64 (z.x.kv.lease)] 204) :: Ro (Blk kb (byt z.x.kv.k ++ ks) 5) :: Ro (Blk vb (byt z.x.kv.v ++ vs) 5) :: AllP KvZ l :: Blk b1 [.int .i64 (z.x.m), .int .i64 (z.x.s), .bool (z.x.gone), .pointer (some ⟨z.p, 0, none⟩)] 164 :: Own 86 1 v1 i (flatOf BV.cells bs1) :: AllP BvZ bs1 :: Own 86 1 v2 i (flatOf BV.cells bs2) :: AllP BvZ bs2 :: A :: F)
    refine WPc.region ?_
    refine WP.val rfl rfl rfl (Val.fieldAddr (j := 3) rfl Ty.fo164_1 rfl rfl) ?_
    refine WP.val rfl rfl rfl (Val.load rfl Ty.sc161 rfl (fun w h => h.cell 4 rfl rfl)) ?_
    refine WP.val rfl rfl rfl (Val.iface rfl rfl Ty.ni161) ?_
    refine WP.perm pl2 ?_
    refine WP.perm pl2 ?_
    refine WP.perm pl2 ?_
    refine WP.eff rfl rfl rfl (Eff.call rfl rfl Try.call91 (marshal_spec z.p kb kc vb vc ks vs 5 5 z.x.kv (by omega) (by omega) hkc.1 hkc.2)) ?_
    rintro _ _ ⟨_, ⟨um, rfl, rfl⟩, rfl⟩
    show WP _ _ _ _ _ _ _ (Own 5 1 um ((marsh z.x.kv).length) (byt (marsh z.x.kv)) :: AllP KvZ l :: Blk b1 [.int .i64 (z.x.m), .int .i64 (z.x.s), .bool (z.x.gone), .pointer (some ⟨z.p, 0, none⟩)] 164 :: Own 86 1 v1 i (flatOf BV.cells bs1) :: AllP BvZ bs1 :: Own 86 1 v2 i (flatOf BV.cells bs2) :: AllP BvZ bs2 :: A :: F)
    refine WP.val rfl rfl rfl (Val.move rfl rfl) ?_
    refine WP.val rfl rfl rfl (Val.extract rfl rfl rfl) ?_
    refine WP.val rfl rfl rfl (Val.extract rfl rfl rfl) ?_
    refine WP.val rfl rfl rfl (Val.assign rfl rfl) ?_
    refine WP.val rfl rfl rfl (Val.assign rfl rfl) ?_
    refine WP.nil ?_
    refine Out.next ?_
    refine WPc.seq ?_
    refine WPc.fact (fun w h => own_oneCell h) (fun oneum => ?_)
    refine WPc.conv (fun w h => h.seqMk) ?_
    show WPc _ _ _ _ _ _ (Seq um (marsh z.x.kv).length (byt (marsh z.x.kv)) :: AllP KvZ l :: Blk b1 [.int .i64 (z.x.m), .int .i64 (z.x.s), .bool (z.x.gone), .pointer (some ⟨z.p, 0, none⟩)] 164 :: Own 86 1 v1 i (flatOf BV.cells bs1) :: AllP BvZ bs1 :: Own 86 1 v2 i (flatOf BV.cells bs2) :: AllP BvZ bs2 :: A :: F)
    refine WPD.start (Sat W [Blk b1 [.int .i64 (z.x.m), .int .i64 (z.x.s), .bool (z.x.gone), .pointer (some ⟨z.p, 0, none⟩)] 164]) Ty.mixed ?_
    refine WPD.takeM 0 rfl rfl rfl rfl (by kernel_rfl) (by kernel_rfl) (by kernel_rfl) (by kernel_rfl) (fun _ _ _ h => h) (fun w h => ((h.perm pl2)).dropEnd (L := [_])) (Val.move rfl rfl) ?_
    refine WPD.takeM 1 rfl rfl rfl rfl (by kernel_rfl) (by kernel_rfl) (by kernel_rfl) (by kernel_rfl) (fun _ _ _ h => h) (fun w h => ((h.perm pl2)).dropEnd (L := [_])) (Val.fieldAddr (j := 0) rfl Ty.fo164_0 rfl rfl) ?_
    refine WPD.take 2 rfl rfl rfl rfl (by kernel_rfl) (by kernel_rfl) (by kernel_rfl) (by kernel_rfl) (fun _ _ _ h => h) (by kernel_rfl) (fun w h => ((h.perm pl2)).dropEnd (L := [_])) (Val.loadAgg (cs := [.int .i64 (z.x.m), .int .i64 (z.x.s), .bool (z.x.gone)]) rfl Ty.ag159 rfl rfl (fun w h => h.range 0 rfl rfl)) ?_
    refine WPD.step 3 (by kernel_rfl) rfl rfl rfl rfl (Eff.call rfl rfl Try.call93 (newrev_spec)) ?_
    rintro _ _ ⟨_, ⟨rb, rfl, rfl⟩, rfl⟩
    refine ⟨(fun w h => ((h.perm pl3)).dropEnd (L := [_])), ?_⟩
    show WPD _ _ _ _ _ _ _ _ _ (Blk rb z18 5 :: Seq um (marsh z.x.kv).length (byt (marsh z.x.kv)) :: AllP KvZ l :: Blk b1 [.int .i64 (z.x.m), .int .i64 (z.x.s), .bool (z.x.gone), .pointer (some ⟨z.p, 0, none⟩)] 164 :: Own 86 1 v1 i (flatOf BV.cells bs1) :: AllP BvZ bs1 :: Own 86 1 v2 i (flatOf BV.cells bs2) :: AllP BvZ bs2 :: A :: F)
    refine WPD.stepC 4 (by kernel_rfl) rfl rfl rfl rfl (by kernel_rfl) (Eff.call rfl rfl Try.call92 (tobytes_spec rb z.x.m z.x.s z.x.gone)) ?_
    rintro uk _ ⟨_, rfl, rfl⟩
    refine ⟨(Sat W (Own 5 1 uk ((bkey z.x.m z.x.s z.x.gone).length) (byt (bkey z.x.m z.x.s z.x.gone)) :: Seq um (marsh z.x.kv).length (byt (marsh z.x.kv)) :: AllP KvZ l :: Blk b1 [.int .i64 (z.x.m), .int .i64 (z.x.s), .bool (z.x.gone), .pointer (some ⟨z.p, 0, none⟩)] 164 :: Own 86 1 v1 i (flatOf BV.cells bs1) :: AllP BvZ bs1 :: Own 86 1 v2 i (flatOf BV.cells bs2) :: AllP BvZ bs2 :: A :: F)), (fun _ h => h), ?_⟩
    show WPD _ _ _ _ _ _ _ _ _ (Own 5 1 uk ((bkey z.x.m z.x.s z.x.gone).length) (byt (bkey z.x.m z.x.s z.x.gone)) :: Seq um (marsh z.x.kv).length (byt (marsh z.x.kv)) :: AllP KvZ l :: Blk b1 [.int .i64 (z.x.m), .int .i64 (z.x.s), .bool (z.x.gone), .pointer (some ⟨z.p, 0, none⟩)] 164 :: Own 86 1 v1 i (flatOf BV.cells bs1) :: AllP BvZ bs1 :: Own 86 1 v2 i (flatOf BV.cells bs2) :: AllP BvZ bs2 :: A :: F)
    refine WPD.fact (fun w h => own_oneCell h) (fun oneuk => ?_)
    refine WPD.conv (fun w h => h.seqMk) ?_
    show WPD _ _ _ _ _ _ _ _ _ (Seq uk (bkey z.x.m z.x.s z.x.gone).length (byt (bkey z.x.m z.x.s z.x.gone)) :: Seq um (marsh z.x.kv).length (byt (marsh z.x.kv)) :: AllP KvZ l :: Blk b1 [.int .i64 (z.x.m), .int .i64 (z.x.s), .bool (z.x.gone), .pointer (some ⟨z.p, 0, none⟩)] 164 :: Own 86 1 v1 i (flatOf BV.cells bs1) :: AllP BvZ bs1 :: Own 86 1 v2 i (flatOf BV.cells bs2) :: AllP BvZ bs2 :: A :: F)
    refine WPD.stepC 5 (by kernel_rfl) rfl rfl rfl rfl (by kernel_rfl) (Eff.mkSlice1 rfl Ty.sl150 Ty.z86 rfl oneuk) ?_
    rintro _ _ ⟨b2, rfl, rfl⟩
    refine ⟨(Sat W (Blk b2 [uk] 86 :: Seq uk (bkey z.x.m z.x.s z.x.gone).length (byt (bkey z.x.m z.x.s z.x.gone)) :: Seq um (marsh z.x.kv).length (byt (marsh z.x.kv)) :: AllP KvZ l :: Blk b1 [.int .i64 (z.x.m), .int .i64 (z.x.s), .bool (z.x.gone), .pointer (some ⟨z.p, 0, none⟩)] 164 :: Own 86 1 v1 i (flatOf BV.cells bs1) :: AllP BvZ bs1 :: Own 86 1 v2 i (flatOf BV.cells bs2) :: AllP BvZ bs2 :: A :: F)), (fun _ h => h), ?_⟩
    refine WPD.perm pl5 ?_
    refine WPD.stepC 6 (by kernel_rfl) rfl rfl rfl rfl (by kernel_rfl) (Eff.append (m := 1) (n0 := i) (news := [uk]) rfl Ty.sl150 Ty.z86 rfl rfl rfl (.slice Ty.sl150 rfl (by simp only [List.all_cons, List.all_nil, Bool.and_true, oc_int, oc_str, oc_bool, oc_ptr, oc_slice, oc_iface, oc_map, oneuk]) (fun w h => cells_range (h.range 1 rfl rfl))) (by omega) (by omega)) ?_
    rintro v3 _ ⟨onev3, rfl⟩
    refine ⟨(Sat W (Own 86 1 v3 (i + 1) ((flatOf BV.cells bs1) ++ ([uk])) :: Blk b2 [uk] 86 :: Seq uk (bkey z.x.m z.x.s z.x.gone).length (byt (bkey z.x.m z.x.s z.x.gone)) :: Seq um (marsh z.x.kv).length (byt (marsh z.x.kv)) :: AllP KvZ l :: Blk b1 [.int .i64 (z.x.m), .int .i64 (z.x.s), .bool (z.x.gone), .pointer (some ⟨z.p, 0, none⟩)] 164 :: AllP BvZ bs1 :: Own 86 1 v2 i (flatOf BV.cells bs2) :: AllP BvZ bs2 :: A :: F)), (fun _ h => h), ?_⟩
    refine WPD.takeM 7 rfl rfl rfl rfl (by kernel_rfl) (by kernel_rfl) (by kernel_rfl) (by kernel_rfl) (fun _ _ _ h => h) (fun _ h => h) (Val.assign rfl rfl) ?_
    refine WPD.done (by kernel_rfl) ?_
    refine Out.next ?_
    refine WPc.region ?_
    refine WP.val rfl rfl rfl (Val.move rfl rfl) ?_
    refine WP.val rfl rfl rfl (Val.move rfl rfl) ?_
    refine WP.eff rfl rfl rfl (Eff.mkSlice1 rfl Ty.sl150 Ty.z86 rfl oneum) ?_
    rintro _ _ ⟨b4, rfl, rfl⟩
    refine WP.perm pl8 ?_
    refine WP.eff rfl rfl rfl (Eff.append (m := 1) (n0 := i) (news := [um]) rfl Ty.sl150 Ty.z86 rfl rfl rfl (.slice Ty.sl150 rfl (by simp only [List.all_cons, List.all_nil, Bool.and_true, oc_int, oc_str, oc_bool, oc_ptr, oc_slice, oc_iface, oc_map, oneum]) (fun w h => cells_range (h.range 1 rfl rfl))) (by omega) (by omega)) ?_
    rintro v5 _ ⟨onev5, rfl⟩
    refine WP.val rfl rfl rfl (Val.assign rfl rfl) ?_
    refine WP.nil ?_
    refine Out.block ?_
    refine Out.next ?_
    refine WPc.perm pl8 ?_
    refine WPc.perm pl5 ?_
    refine WPc.conv (M := AllP BvZ (bs1 ++ [⟨uk, bkey z.x.m z.x.s z.x.gone⟩]) :: Own 86 1 v5 (i + 1) ((flatOf BV.cells bs2) ++ ([um])) :: Blk b4 [um] 86 :: Own 86 1 v3 (i + 1) ((flatOf BV.cells bs1) ++ ([uk])) :: Blk b2 [uk] 86 :: Seq um (marsh z.x.kv).length (byt (marsh z.x.kv)) :: AllP KvZ l :: Blk b1 [.int .i64 (z.x.m), .int .i64 (z.x.s), .bool (z.x.gone), .pointer (some ⟨z.p, 0, none⟩)] 164 :: AllP BvZ bs2 :: A :: F) (fun w h => bv_add h) ?_
    refine WPc.perm pl8 ?_
    refine WPc.perm pl6 ?_
    refine WPc.conv (M := AllP BvZ (bs2 ++ [⟨um, marsh z.x.kv⟩]) :: AllP BvZ ((bs1 ++ [⟨uk, bkey z.x.m z.x.s z.x.gone⟩])) :: Own 86 1 v5 (i + 1) ((flatOf BV.cells bs2) ++ ([um])) :: Blk b4 [um] 86 :: Own 86 1 v3 (i + 1) ((flatOf BV.cells bs1) ++ ([uk])) :: Blk b2 [uk] 86 :: AllP KvZ l :: Blk b1 [.int .i64 (z.x.m), .int .i64 (z.x.s), .bool (z.x.gone), .pointer (some ⟨z.p, 0, none⟩)] 164 :: A :: F) (fun w h => bv_add h) ?_
    refine WPc.region ?_
    refine WP.val rfl rfl rfl (Val.add (z := ((i + 1 : Nat) : Int)) rfl rfl rfl ((w64 (by omega) (by omega)).trans (by omega))) ?_
    refine WP.val rfl rfl rfl (Val.move rfl rfl) ?_
    refine WP.nil ?_
    refine Out.perm pl3 ?_
    refine Out.drop ?_
    refine Out.perm pl4 ?_
    refine Out.drop ?_
    refine Out.perm pl5 ?_
    refine Out.drop ?_
    refine Out.perm pl5 ?_
    refine Out.perm pl5 ?_
    refine Out.perm pl2 ?_
    refine Out.perm pl4 ?_
    refine Out.perm pl4 ?_
    refine Out.perm pl5 ?_
    refine Out.again (i + 1, bs1 ++ [⟨uk, bkey z.x.m z.x.s z.x.gone⟩], bs2 ++ [⟨um, marsh z.x.kv⟩], v3, v5) ?_ ?_ ?_ ?_
    · exact ⟨by omega, by rw [List.map_append, h1b, take_more hx]; simp, by rw [List.map_append, h2b, take_more hx]; simp⟩
    · (dsimp only; omega)
    · exact (Sub.cons rfl (Sub.cons rfl (Sub.cons rfl (Sub.cons rfl (Sub.cons rfl Sub.nil)))))
    · exact (fun w h => by dsimp only; rw [flatOf_snoc, flatOf_snoc]; exact h)
  · skip
    have h1 : ¬ (((i : Nat) : Int) < ((l.length : Nat) : Int)) := h1
    refine WPc.exit ?_
    refine Out.then_exit ?_
    refine Out.then_exit ?_
    refine Out.block_exit ?_
    refine Out.next ?_
    refine WPc.seq ?_
    refine WPc.region ?_
    refine WP.val rfl rfl rfl (Val.move rfl rfl) ?_
    refine WP.val rfl rfl rfl (Val.move rfl rfl) ?_
    refine WP.val rfl rfl rfl (Val.assign rfl rfl) ?_
    refine WP.val rfl rfl rfl (Val.assign rfl rfl) ?_
    refine WP.nil ?_
    refine Out.next ?_
    refine WPc.ret ?_
    have hti2 : (l).take i = l := List.take_of_length_le (by first | omega | (simp at *; try omega))
    have hil : i = (l).length := by first | omega | (simp at *; omega)
    rw [hti2] at h1b h2b
    refine Out.perm pl4 ?_
    refine Out.drop ?_
    exact Out.ret2 (L' := _) Try.results66 rfl rfl ⟨bs1, bs2, v1, v2, h1b, h2b, rfl, rfl⟩ (fun w h => by rw [hil] at h; exact h)

theorem zz_spec (A : HProp) (l : List ZR) (hl : l.length ≤ 100000) (hsz : ∀ z ∈ l, z.x.kv.k.length ≤ 100 ∧ z.x.kv.v.length ≤ 100) (va : Value) (hva : Rd A 4 ZR.cells va l) : Does Try.prog 66 [va] [AllP KvZ l, A] (fun v L => ∃ bs1 bs2 v1 v2, bs1.map BV.d = l.map (fun z => bkey z.x.m z.x.s z.x.gone) ∧ bs2.map BV.d = l.map (fun z => marsh z.x.kv) ∧ v = .tuple #[v1, v2] ∧ L = [Own 86 1 v1 l.length (flatOf BV.cells bs1), AllP BvZ bs1, Own 86 1 v2 l.length (flatOf BV.cells bs2), AllP BvZ bs2, A]) := by
  rcases hva with ⟨b0, o0, c0, rfl, hr⟩ | ⟨rfl, a, c, rfl⟩
  · exact zz_row A l hl hsz b0 o0 c0 hr
  · exact zz_nil A a c

end Go.Proofs.Ythmkdioafjmclaa.Hx
