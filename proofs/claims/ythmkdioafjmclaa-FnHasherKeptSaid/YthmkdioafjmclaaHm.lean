import Derived.Test.YthmkdioafjmclaaHp
namespace Go.Proofs.Ythmkdioafjmclaa.Hm
open Go.RowKit Go.Proofs.Ythmkdioafjmclaa Go.Proofs.Ythmkdioafjmclaa.Sl Go.Proofs.Ythmkdioafjmclaa.Hc Go.Proofs.Ythmkdioafjmclaa.Hp
set_option linter.unusedVariables false
set_option linter.unusedSimpArgs false
set_option linter.unusedSectionVars false


structure KVr where
  key : ByteArray
  val : ByteArray
  create : Int
  mod : Int
  ver : Int
  lease : Int
def KVr.k (x : KVr) : List UInt8 := x.key.data.toList
def KVr.v (x : KVr) : List UInt8 := x.val.data.toList
def KVr.cells (x : KVr) : List Value := [.string x.key, .string x.val, .int .i64 x.create, .int .i64 x.mod, .int .i64 x.ver, .int .i64 x.lease]
def marsh (x : KVr) : List UInt8 := (if 0 < x.k.length then pbytes 1 x.k else []) ++ pint 2 x.create ++ pint 3 x.mod ++ pint 4 x.ver ++ (if 0 < x.v.length then pbytes 5 x.v else []) ++ pint 6 x.lease
theorem ro_pre {b : Nat} {l : List UInt8} {sp : List Value} {T : TypeId} : ∀ w, Holds (Ro (Blk b (byt l ++ sp) T)) w → w.rangeAt b 0 (byt l) := fun w h => h.ro.cell_range (by simp)
set_option maxRecDepth 100000 in
set_option maxHeartbeats 1000000 in
theorem fields_spec (pb kb kc vb vc : Nat) (ks vs : List Value) (tk tv : TypeId) (x : KVr) (hk : x.k.length ≤ 100) (hv : x.v.length ≤ 100) (hkc : x.k.length ≤ kc) (hvc : x.v.length ≤ vc) : Does Try.prog 171 [.pointer (some ⟨pb, 0, none⟩)] [Ro (Blk pb [.slice (some ⟨kb, 0, none⟩) x.k.length kc, .int .i64 (x.create), .int .i64 (x.mod), .int .i64 (x.ver), .slice (some ⟨vb, 0, none⟩) x.v.length vc, .int .i64 (x.lease)] 204), Ro (Blk kb (byt x.k ++ ks) tk), Ro (Blk vb (byt x.v ++ vs) tv)] (fun v L => L = [Own 5 1 v ((marsh x).length) (byt (marsh x))]) := by
  refine Does.enter 52 Try.func171 rfl rfl rfl fun W F => ?_
  show WPc _ _ _ _ _ [(0, .pointer (some ⟨pb, 0, none⟩))] (Ro (Blk pb [.slice (some ⟨kb, 0, none⟩) x.k.length kc, .int .i64 (x.create), .int .i64 (x.mod), .int .i64 (x.ver), .slice (some ⟨vb, 0, none⟩) x.v.length vc, .int .i64 (x.lease)] 204) :: Ro (Blk kb (byt x.k ++ ks) tk) :: Ro (Blk vb (byt x.v ++ vs) tv) :: F)
  refine WPc.seq ?_
  refine WPc.region ?_
  refine WP.val rfl rfl rfl (Val.assign rfl rfl) ?_
  refine WP.nil ?_
  refine Out.next ?_
  refine WPc.seq ?_
  refine WPc.region ?_
  refine WP.val rfl rfl rfl (Val.assign rfl rfl) ?_
  refine WP.nil ?_
  refine Out.next ?_
  refine WPc.seq ?_
  refine WPc.seq ?_
  refine WPc.conv (fun w h => h.ownNil (e := 5) (k := 1)) ?_
  show WPc _ _ _ _ _ _ (Own 5 1 (.slice none 0 0) (([] : List UInt8).length) (byt ([] : List UInt8)) :: Ro (Blk pb [.slice (some ⟨kb, 0, none⟩) x.k.length kc, .int .i64 (x.create), .int .i64 (x.mod), .int .i64 (x.ver), .slice (some ⟨vb, 0, none⟩) x.v.length vc, .int .i64 (x.lease)] 204) :: Ro (Blk kb (byt x.k ++ ks) tk) :: Ro (Blk vb (byt x.v ++ vs) tv) :: F)
  have hm0 : ([] : List UInt8).length = 0 := rfl
  refine WPc.region ?_
  refine WP.val rfl rfl rfl (Val.move rfl rfl) ?_
  refine WP.val rfl rfl rfl (Val.nilCheck rfl rfl) ?_
  refine WP.val rfl rfl rfl (Val.fieldAddr (j := 0) rfl Ty.fo204_0 rfl rfl) ?_
  refine WP.val rfl rfl rfl (Val.load rfl Ty.sc86 rfl (fun w h => h.cellRo 1 rfl rfl)) ?_
  refine WP.val rfl rfl rfl (Val.len rfl Ty.sl86 rfl) ?_
  refine WP.val rfl rfl rfl (Val.gtr rfl rfl rfl) ?_
  refine WP.nil ?_
  refine Out.next ?_
  refine WPc.ifP rfl (fun h1 => ?_) (fun h1 => ?_)
  · skip
    have h1 : ((0 : Int) < ((x.k.length : Nat) : Int)) := h1
    refine WPc.region ?_
    refine WP.val rfl rfl rfl (Val.move rfl rfl) ?_
    refine WP.val rfl rfl rfl (Val.move rfl rfl) ?_
    refine WP.val rfl rfl rfl (Val.nilCheck rfl rfl) ?_
    refine WP.val rfl rfl rfl (Val.fieldAddr (j := 0) rfl Ty.fo204_0 rfl rfl) ?_
    refine WP.val rfl rfl rfl (Val.load rfl Ty.sc86 rfl (fun w h => h.cellRo 1 rfl rfl)) ?_
    have hl1 := pbytes_len 1 x.k
    have hm1 : (([] : List UInt8) ++ pbytes 1 x.k).length = (([] : List UInt8)).length + (pbytes 1 x.k).length := List.length_append
    refine WP.perm pl2 ?_
    refine WP.perm pl1 ?_
    refine WP.eff rfl rfl rfl (Eff.call rfl rfl Try.call172 (putbytes_spec (Ro (Blk kb (byt x.k ++ ks) tk)) (.slice none 0 0) (([] : List UInt8)) 1 x.k kb 0 kc ro_pre (by omega) (by omega) (by first | omega | (simp; done)))) ?_
    rintro pb1 _ ⟨_, rfl, rfl⟩
    show WP _ _ _ _ _ _ _ (Own 5 1 pb1 ((([] : List UInt8) ++ pbytes 1 x.k).length) (byt (([] : List UInt8) ++ pbytes 1 x.k)) :: Ro (Blk kb (byt x.k ++ ks) tk) :: Ro (Blk pb [.slice (some ⟨kb, 0, none⟩) x.k.length kc, .int .i64 (x.create), .int .i64 (x.mod), .int .i64 (x.ver), .slice (some ⟨vb, 0, none⟩) x.v.length vc, .int .i64 (x.lease)] 204) :: Ro (Blk vb (byt x.v ++ vs) tv) :: F)
    refine WP.val rfl rfl rfl (Val.assign rfl rfl) ?_
    refine WP.nil ?_
    refine Out.next ?_
    refine WPc.seq ?_
    refine WPc.region ?_
    refine WP.val rfl rfl rfl (Val.move rfl rfl) ?_
    refine WP.val rfl rfl rfl (Val.move rfl rfl) ?_
    refine WP.val rfl rfl rfl (Val.nilCheck rfl rfl) ?_
    refine WP.val rfl rfl rfl (Val.fieldAddr (j := 1) rfl Ty.fo204_1 rfl rfl) ?_
    refine WP.val rfl rfl rfl (Val.load rfl Ty.sc2 rfl (fun w h => h.cellRo 2 rfl rfl)) ?_
    have hl2 := pint_len 2 x.create
    have hm2 : (([] : List UInt8) ++ pbytes 1 x.k ++ pint 2 x.create).length = (([] : List UInt8) ++ pbytes 1 x.k).length + (pint 2 x.create).length := List.length_append
    refine WP.eff rfl rfl rfl (Eff.call rfl rfl Try.call173 (putint_spec pb1 (([] : List UInt8) ++ pbytes 1 x.k) 2 x.create (by first | omega | (simp; done)))) ?_
    rintro pi2 _ ⟨_, rfl, rfl⟩
    show WP _ _ _ _ _ _ _ (Own 5 1 pi2 ((([] : List UInt8) ++ pbytes 1 x.k ++ pint 2 x.create).length) (byt (([] : List UInt8) ++ pbytes 1 x.k ++ pint 2 x.create)) :: Ro (Blk kb (byt x.k ++ ks) tk) :: Ro (Blk pb [.slice (some ⟨kb, 0, none⟩) x.k.length kc, .int .i64 (x.create), .int .i64 (x.mod), .int .i64 (x.ver), .slice (some ⟨vb, 0, none⟩) x.v.length vc, .int .i64 (x.lease)] 204) :: Ro (Blk vb (byt x.v ++ vs) tv) :: F)
    refine WP.val rfl rfl rfl (Val.assign rfl rfl) ?_
    refine WP.nil ?_
    refine Out.next ?_
    refine WPc.seq ?_
    refine WPc.region ?_
    refine WP.val rfl rfl rfl (Val.move rfl rfl) ?_
    refine WP.val rfl rfl rfl (Val.move rfl rfl) ?_
    refine WP.val rfl rfl rfl (Val.nilCheck rfl rfl) ?_
    refine WP.val rfl rfl rfl (Val.fieldAddr (j := 2) rfl Ty.fo204_2 rfl rfl) ?_
    refine WP.val rfl rfl rfl (Val.load rfl Ty.sc2 rfl (fun w h => h.cellRo 2 rfl rfl)) ?_
    have hl3 := pint_len 3 x.mod
    have hm3 : (([] : List UInt8) ++ pbytes 1 x.k ++ pint 2 x.create ++ pint 3 x.mod).length = (([] : List UInt8) ++ pbytes 1 x.k ++ pint 2 x.create).length + (pint 3 x.mod).length := List.length_append
    refine WP.eff rfl rfl rfl (Eff.call rfl rfl Try.call173 (putint_spec pi2 (([] : List UInt8) ++ pbytes 1 x.k ++ pint 2 x.create) 3 x.mod (by first | omega | (simp; done)))) ?_
    rintro pi3 _ ⟨_, rfl, rfl⟩
    show WP _ _ _ _ _ _ _ (Own 5 1 pi3 ((([] : List UInt8) ++ pbytes 1 x.k ++ pint 2 x.create ++ pint 3 x.mod).length) (byt (([] : List UInt8) ++ pbytes 1 x.k ++ pint 2 x.create ++ pint 3 x.mod)) :: Ro (Blk kb (byt x.k ++ ks) tk) :: Ro (Blk pb [.slice (some ⟨kb, 0, none⟩) x.k.length kc, .int .i64 (x.create), .int .i64 (x.mod), .int .i64 (x.ver), .slice (some ⟨vb, 0, none⟩) x.v.length vc, .int .i64 (x.lease)] 204) :: Ro (Blk vb (byt x.v ++ vs) tv) :: F)
    refine WP.val rfl rfl rfl (Val.assign rfl rfl) ?_
    refine WP.nil ?_
    refine Out.next ?_
    refine WPc.seq ?_
    refine WPc.region ?_
    refine WP.val rfl rfl rfl (Val.move rfl rfl) ?_
    refine WP.val rfl rfl rfl (Val.move rfl rfl) ?_
    refine WP.val rfl rfl rfl (Val.nilCheck rfl rfl) ?_
    refine WP.val rfl rfl rfl (Val.fieldAddr (j := 3) rfl Ty.fo204_3 rfl rfl) ?_
    refine WP.val rfl rfl rfl (Val.load rfl Ty.sc2 rfl (fun w h => h.cellRo 2 rfl rfl)) ?_
    have hl4 := pint_len 4 x.ver
    have hm4 : (([] : List UInt8) ++ pbytes 1 x.k ++ pint 2 x.create ++ pint 3 x.mod ++ pint 4 x.ver).length = (([] : List UInt8) ++ pbytes 1 x.k ++ pint 2 x.create ++ pint 3 x.mod).length + (pint 4 x.ver).length := List.length_append
    refine WP.eff rfl rfl rfl (Eff.call rfl rfl Try.call173 (putint_spec pi3 (([] : List UInt8) ++ pbytes 1 x.k ++ pint 2 x.create ++ pint 3 x.mod) 4 x.ver (by first | omega | (simp; done)))) ?_
    rintro pi4 _ ⟨_, rfl, rfl⟩
    show WP _ _ _ _ _ _ _ (Own 5 1 pi4 ((([] : List UInt8) ++ pbytes 1 x.k ++ pint 2 x.create ++ pint 3 x.mod ++ pint 4 x.ver).length) (byt (([] : List UInt8) ++ pbytes 1 x.k ++ pint 2 x.create ++ pint 3 x.mod ++ pint 4 x.ver)) :: Ro (Blk kb (byt x.k ++ ks) tk) :: Ro (Blk pb [.slice (some ⟨kb, 0, none⟩) x.k.length kc, .int .i64 (x.create), .int .i64 (x.mod), .int .i64 (x.ver), .slice (some ⟨vb, 0, none⟩) x.v.length vc, .int .i64 (x.lease)] 204) :: Ro (Blk vb (byt x.v ++ vs) tv) :: F)
    refine WP.val rfl rfl rfl (Val.assign rfl rfl) ?_
    refine WP.nil ?_
    refine Out.next ?_
    refine WPc.seq ?_
    refine WPc.seq ?_
    refine WPc.region ?_
    refine WP.val rfl rfl rfl (Val.move rfl rfl) ?_
    refine WP.val rfl rfl rfl (Val.nilCheck rfl rfl) ?_
    refine WP.val rfl rfl rfl (Val.fieldAddr (j := 4) rfl Ty.fo204_4 rfl rfl) ?_
    refine WP.val rfl rfl rfl (Val.load rfl Ty.sc86 rfl (fun w h => h.cellRo 2 rfl rfl)) ?_
    refine WP.val rfl rfl rfl (Val.len rfl Ty.sl86 rfl) ?_
    refine WP.val rfl rfl rfl (Val.gtr rfl rfl rfl) ?_
    refine WP.nil ?_
    refine Out.next ?_
    refine WPc.ifP rfl (fun h2 => ?_) (fun h2 => ?_)
    · skip
      have h2 : ((0 : Int) < ((x.v.length : Nat) : Int)) := h2
      refine WPc.region ?_
      refine WP.val rfl rfl rfl (Val.move rfl rfl) ?_
      refine WP.val rfl rfl rfl (Val.move rfl rfl) ?_
      refine WP.val rfl rfl rfl (Val.nilCheck rfl rfl) ?_
      refine WP.val rfl rfl rfl (Val.fieldAddr (j := 4) rfl Ty.fo204_4 rfl rfl) ?_
      refine WP.val rfl rfl rfl (Val.load rfl Ty.sc86 rfl (fun w h => h.cellRo 2 rfl rfl)) ?_
      have hl5 := pbytes_len 5 x.v
      have hm5 : (([] : List UInt8) ++ pbytes 1 x.k ++ pint 2 x.create ++ pint 3 x.mod ++ pint 4 x.ver ++ pbytes 5 x.v).length = (([] : List UInt8) ++ pbytes 1 x.k ++ pint 2 x.create ++ pint 3 x.mod ++ pint 4 x.ver).length + (pbytes 5 x.v).length := List.length_append
      refine WP.perm pl3 ?_
      refine WP.perm pl1 ?_
      refine WP.eff rfl rfl rfl (Eff.call rfl rfl Try.call172 (putbytes_spec (Ro (Blk vb (byt x.v ++ vs) tv)) pi4 (([] : List UInt8) ++ pbytes 1 x.k ++ pint 2 x.create ++ pint 3 x.mod ++ pint 4 x.ver) 5 x.v vb 0 vc ro_pre (by omega) (by omega) (by first | omega | (simp; done)))) ?_
      rintro pb5 _ ⟨_, rfl, rfl⟩
      show WP _ _ _ _ _ _ _ (Own 5 1 pb5 ((([] : List UInt8) ++ pbytes 1 x.k ++ pint 2 x.create ++ pint 3 x.mod ++ pint 4 x.ver ++ pbytes 5 x.v).length) (byt (([] : List UInt8) ++ pbytes 1 x.k ++ pint 2 x.create ++ pint 3 x.mod ++ pint 4 x.ver ++ pbytes 5 x.v)) :: Ro (Blk vb (byt x.v ++ vs) tv) :: Ro (Blk kb (byt x.k ++ ks) tk) :: Ro (Blk pb [.slice (some ⟨kb, 0, none⟩) x.k.length kc, .int .i64 (x.create), .int .i64 (x.mod), .int .i64 (x.ver), .slice (some ⟨vb, 0, none⟩) x.v.length vc, .int .i64 (x.lease)] 204) :: F)
      refine WP.val rfl rfl rfl (Val.assign rfl rfl) ?_
      refine WP.nil ?_
      refine Out.next ?_
      refine WPc.seq ?_
      refine WPc.region ?_
      refine WP.val rfl rfl rfl (Val.move rfl rfl) ?_
      refine WP.val rfl rfl rfl (Val.move rfl rfl) ?_
      refine WP.val rfl rfl rfl (Val.nilCheck rfl rfl) ?_
      refine WP.val rfl rfl rfl (Val.fieldAddr (j := 5) rfl Ty.fo204_5 rfl rfl) ?_
      refine WP.val rfl rfl rfl (Val.load rfl Ty.sc2 rfl (fun w h => h.cellRo 3 rfl rfl)) ?_
      have hl6 := pint_len 6 x.lease
      have hm6 : (([] : List UInt8) ++ pbytes 1 x.k ++ pint 2 x.create ++ pint 3 x.mod ++ pint 4 x.ver ++ pbytes 5 x.v ++ pint 6 x.lease).length = (([] : List UInt8) ++ pbytes 1 x.k ++ pint 2 x.create ++ pint 3 x.mod ++ pint 4 x.ver ++ pbytes 5 x.v).length + (pint 6 x.lease).length := List.length_append
      refine WP.eff rfl rfl rfl (Eff.call rfl rfl Try.call173 (putint_spec pb5 (([] : List UInt8) ++ pbytes 1 x.k ++ pint 2 x.create ++ pint 3 x.mod ++ pint 4 x.ver ++ pbytes 5 x.v) 6 x.lease (by first | omega | (simp; done)))) ?_
      rintro pi6 _ ⟨_, rfl, rfl⟩
      show WP _ _ _ _ _ _ _ (Own 5 1 pi6 ((([] : List UInt8) ++ pbytes 1 x.k ++ pint 2 x.create ++ pint 3 x.mod ++ pint 4 x.ver ++ pbytes 5 x.v ++ pint 6 x.lease).length) (byt (([] : List UInt8) ++ pbytes 1 x.k ++ pint 2 x.create ++ pint 3 x.mod ++ pint 4 x.ver ++ pbytes 5 x.v ++ pint 6 x.lease)) :: Ro (Blk vb (byt x.v ++ vs) tv) :: Ro (Blk kb (byt x.k ++ ks) tk) :: Ro (Blk pb [.slice (some ⟨kb, 0, none⟩) x.k.length kc, .int .i64 (x.create), .int .i64 (x.mod), .int .i64 (x.ver), .slice (some ⟨vb, 0, none⟩) x.v.length vc, .int .i64 (x.lease)] 204) :: F)
      refine WP.val rfl rfl rfl (Val.assign rfl rfl) ?_
      refine WP.nil ?_
      refine Out.next ?_
      refine WPc.ret ?_
      have he : marsh x = ([] : List UInt8) ++ pbytes 1 x.k ++ pint 2 x.create ++ pint 3 x.mod ++ pint 4 x.ver ++ pbytes 5 x.v ++ pint 6 x.lease := by
        unfold marsh
        rw [if_pos (by omega), if_pos (by omega)]
        try simp
      refine Out.perm pl1 ?_
      refine Out.drop ?_
      refine Out.perm pl1 ?_
      refine Out.drop ?_
      refine Out.perm pl1 ?_
      refine Out.drop ?_
      exact Out.ret1 (L' := _) Try.results171 rfl rfl (fun w h => by rw [he]; exact h)
    · skip
      have h2 : ¬ ((0 : Int) < ((x.v.length : Nat) : Int)) := h2
      refine WPc.skip ?_
      refine Out.next ?_
      refine WPc.seq ?_
      refine WPc.region ?_
      refine WP.val rfl rfl rfl (Val.move rfl rfl) ?_
      refine WP.val rfl rfl rfl (Val.move rfl rfl) ?_
      refine WP.val rfl rfl rfl (Val.nilCheck rfl rfl) ?_
      refine WP.val rfl rfl rfl (Val.fieldAddr (j := 5) rfl Ty.fo204_5 rfl rfl) ?_
      refine WP.val rfl rfl rfl (Val.load rfl Ty.sc2 rfl (fun w h => h.cellRo 2 rfl rfl)) ?_
      have hl7 := pint_len 6 x.lease
      have hm7 : (([] : List UInt8) ++ pbytes 1 x.k ++ pint 2 x.create ++ pint 3 x.mod ++ pint 4 x.ver ++ pint 6 x.lease).length = (([] : List UInt8) ++ pbytes 1 x.k ++ pint 2 x.create ++ pint 3 x.mod ++ pint 4 x.ver).length + (pint 6 x.lease).length := List.length_append
      refine WP.eff rfl rfl rfl (Eff.call rfl rfl Try.call173 (putint_spec pi4 (([] : List UInt8) ++ pbytes 1 x.k ++ pint 2 x.create ++ pint 3 x.mod ++ pint 4 x.ver) 6 x.lease (by first | omega | (simp; done)))) ?_
      rintro pi7 _ ⟨_, rfl, rfl⟩
      show WP _ _ _ _ _ _ _ (Own 5 1 pi7 ((([] : List UInt8) ++ pbytes 1 x.k ++ pint 2 x.create ++ pint 3 x.mod ++ pint 4 x.ver ++ pint 6 x.lease).length) (byt (([] : List UInt8) ++ pbytes 1 x.k ++ pint 2 x.create ++ pint 3 x.mod ++ pint 4 x.ver ++ pint 6 x.lease)) :: Ro (Blk kb (byt x.k ++ ks) tk) :: Ro (Blk pb [.slice (some ⟨kb, 0, none⟩) x.k.length kc, .int .i64 (x.create), .int .i64 (x.mod), .int .i64 (x.ver), .slice (some ⟨vb, 0, none⟩) x.v.length vc, .int .i64 (x.lease)] 204) :: Ro (Blk vb (byt x.v ++ vs) tv) :: F)
      refine WP.val rfl rfl rfl (Val.assign rfl rfl) ?_
      refine WP.nil ?_
      refine Out.next ?_
      refine WPc.ret ?_
      have he : marsh x = ([] : List UInt8) ++ pbytes 1 x.k ++ pint 2 x.create ++ pint 3 x.mod ++ pint 4 x.ver ++ pint 6 x.lease := by
        unfold marsh
        rw [if_pos (by omega), if_neg (by omega)]
        try simp
      refine Out.perm pl1 ?_
      refine Out.drop ?_
      refine Out.perm pl1 ?_
      refine Out.drop ?_
      refine Out.perm pl1 ?_
      refine Out.drop ?_
      exact Out.ret1 (L' := _) Try.results171 rfl rfl (fun w h => by rw [he]; exact h)
  · skip
    have h1 : ¬ ((0 : Int) < ((x.k.length : Nat) : Int)) := h1
    refine WPc.skip ?_
    refine Out.next ?_
    refine WPc.seq ?_
    refine WPc.region ?_
    refine WP.val rfl rfl rfl (Val.move rfl rfl) ?_
    refine WP.val rfl rfl rfl (Val.move rfl rfl) ?_
    refine WP.val rfl rfl rfl (Val.nilCheck rfl rfl) ?_
    refine WP.val rfl rfl rfl (Val.fieldAddr (j := 1) rfl Ty.fo204_1 rfl rfl) ?_
    refine WP.val rfl rfl rfl (Val.load rfl Ty.sc2 rfl (fun w h => h.cellRo 1 rfl rfl)) ?_
    have hl8 := pint_len 2 x.create
    have hm8 : (([] : List UInt8) ++ pint 2 x.create).length = (([] : List UInt8)).length + (pint 2 x.create).length := List.length_append
    refine WP.eff rfl rfl rfl (Eff.call rfl rfl Try.call173 (putint_spec (.slice none 0 0) (([] : List UInt8)) 2 x.create (by first | omega | (simp; done)))) ?_
    rintro pi8 _ ⟨_, rfl, rfl⟩
    show WP _ _ _ _ _ _ _ (Own 5 1 pi8 ((([] : List UInt8) ++ pint 2 x.create).length) (byt (([] : List UInt8) ++ pint 2 x.create)) :: Ro (Blk pb [.slice (some ⟨kb, 0, none⟩) x.k.length kc, .int .i64 (x.create), .int .i64 (x.mod), .int .i64 (x.ver), .slice (some ⟨vb, 0, none⟩) x.v.length vc, .int .i64 (x.lease)] 204) :: Ro (Blk kb (byt x.k ++ ks) tk) :: Ro (Blk vb (byt x.v ++ vs) tv) :: F)
    refine WP.val rfl rfl rfl (Val.assign rfl rfl) ?_
    refine WP.nil ?_
    refine Out.next ?_
    refine WPc.seq ?_
    refine WPc.region ?_
    refine WP.val rfl rfl rfl (Val.move rfl rfl) ?_
    refine WP.val rfl rfl rfl (Val.move rfl rfl) ?_
    refine WP.val rfl rfl rfl (Val.nilCheck rfl rfl) ?_
    refine WP.val rfl rfl rfl (Val.fieldAddr (j := 2) rfl Ty.fo204_2 rfl rfl) ?_
    refine WP.val rfl rfl rfl (Val.load rfl Ty.sc2 rfl (fun w h => h.cellRo 1 rfl rfl)) ?_
    have hl9 := pint_len 3 x.mod
    have hm9 : (([] : List UInt8) ++ pint 2 x.create ++ pint 3 x.mod).length = (([] : List UInt8) ++ pint 2 x.create).length + (pint 3 x.mod).length := List.length_append
    refine WP.eff rfl rfl rfl (Eff.call rfl rfl Try.call173 (putint_spec pi8 (([] : List UInt8) ++ pint 2 x.create) 3 x.mod (by first | omega | (simp; done)))) ?_
    rintro pi9 _ ⟨_, rfl, rfl⟩
    show WP _ _ _ _ _ _ _ (Own 5 1 pi9 ((([] : List UInt8) ++ pint 2 x.create ++ pint 3 x.mod).length) (byt (([] : List UInt8) ++ pint 2 x.create ++ pint 3 x.mod)) :: Ro (Blk pb [.slice (some ⟨kb, 0, none⟩) x.k.length kc, .int .i64 (x.create), .int .i64 (x.mod), .int .i64 (x.ver), .slice (some ⟨vb, 0, none⟩) x.v.length vc, .int .i64 (x.lease)] 204) :: Ro (Blk kb (byt x.k ++ ks) tk) :: Ro (Blk vb (byt x.v ++ vs) tv) :: F)
    refine WP.val rfl rfl rfl (Val.assign rfl rfl) ?_
    refine WP.nil ?_
    refine Out.next ?_
    refine WPc.seq ?_
    refine WPc.region ?_
    refine WP.val rfl rfl rfl (Val.move rfl rfl) ?_
    refine WP.val rfl rfl rfl (Val.move rfl rfl) ?_
    refine WP.val rfl rfl rfl (Val.nilCheck rfl rfl) ?_
    refine WP.val rfl rfl rfl (Val.fieldAddr (j := 3) rfl Ty.fo204_3 rfl rfl) ?_
    refine WP.val rfl rfl rfl (Val.load rfl Ty.sc2 rfl (fun w h => h.cellRo 1 rfl rfl)) ?_
    have hl10 := pint_len 4 x.ver
    have hm10 : (([] : List UInt8) ++ pint 2 x.create ++ pint 3 x.mod ++ pint 4 x.ver).length = (([] : List UInt8) ++ pint 2 x.create ++ pint 3 x.mod).length + (pint 4 x.ver).length := List.length_append
    refine WP.eff rfl rfl rfl (Eff.call rfl rfl Try.call173 (putint_spec pi9 (([] : List UInt8) ++ pint 2 x.create ++ pint 3 x.mod) 4 x.ver (by first | omega | (simp; done)))) ?_
    rintro pi10 _ ⟨_, rfl, rfl⟩
    show WP _ _ _ _ _ _ _ (Own 5 1 pi10 ((([] : List UInt8) ++ pint 2 x.create ++ pint 3 x.mod ++ pint 4 x.ver).length) (byt (([] : List UInt8) ++ pint 2 x.create ++ pint 3 x.mod ++ pint 4 x.ver)) :: Ro (Blk pb [.slice (some ⟨kb, 0, none⟩) x.k.length kc, .int .i64 (x.create), .int .i64 (x.mod), .int .i64 (x.ver), .slice (some ⟨vb, 0, none⟩) x.v.length vc, .int .i64 (x.lease)] 204) :: Ro (Blk kb (byt x.k ++ ks) tk) :: Ro (Blk vb (byt x.v ++ vs) tv) :: F)
    refine WP.val rfl rfl rfl (Val.assign rfl rfl) ?_
    refine WP.nil ?_
    refine Out.next ?_
    refine WPc.seq ?_
    refine WPc.seq ?_
    refine WPc.region ?_
    refine WP.val rfl rfl rfl (Val.move rfl rfl) ?_
    refine WP.val rfl rfl rfl (Val.nilCheck rfl rfl) ?_
    refine WP.val rfl rfl rfl (Val.fieldAddr (j := 4) rfl Ty.fo204_4 rfl rfl) ?_
    refine WP.val rfl rfl rfl (Val.load rfl Ty.sc86 rfl (fun w h => h.cellRo 1 rfl rfl)) ?_
    refine WP.val rfl rfl rfl (Val.len rfl Ty.sl86 rfl) ?_
    refine WP.val rfl rfl rfl (Val.gtr rfl rfl rfl) ?_
    refine WP.nil ?_
    refine Out.next ?_
    refine WPc.ifP rfl (fun h3 => ?_) (fun h3 => ?_)
    · skip
      have h3 : ((0 : Int) < ((x.v.length : Nat) : Int)) := h3
      refine WPc.region ?_
      refine WP.val rfl rfl rfl (Val.move rfl rfl) ?_
      refine WP.val rfl rfl rfl (Val.move rfl rfl) ?_
      refine WP.val rfl rfl rfl (Val.nilCheck rfl rfl) ?_
      refine WP.val rfl rfl rfl (Val.fieldAddr (j := 4) rfl Ty.fo204_4 rfl rfl) ?_
      refine WP.val rfl rfl rfl (Val.load rfl Ty.sc86 rfl (fun w h => h.cellRo 1 rfl rfl)) ?_
      have hl11 := pbytes_len 5 x.v
      have hm11 : (([] : List UInt8) ++ pint 2 x.create ++ pint 3 x.mod ++ pint 4 x.ver ++ pbytes 5 x.v).length = (([] : List UInt8) ++ pint 2 x.create ++ pint 3 x.mod ++ pint 4 x.ver).length + (pbytes 5 x.v).length := List.length_append
      refine WP.perm pl3 ?_
      refine WP.perm pl1 ?_
      refine WP.eff rfl rfl rfl (Eff.call rfl rfl Try.call172 (putbytes_spec (Ro (Blk vb (byt x.v ++ vs) tv)) pi10 (([] : List UInt8) ++ pint 2 x.create ++ pint 3 x.mod ++ pint 4 x.ver) 5 x.v vb 0 vc ro_pre (by omega) (by omega) (by first | omega | (simp; done)))) ?_
      rintro pb11 _ ⟨_, rfl, rfl⟩
      show WP _ _ _ _ _ _ _ (Own 5 1 pb11 ((([] : List UInt8) ++ pint 2 x.create ++ pint 3 x.mod ++ pint 4 x.ver ++ pbytes 5 x.v).length) (byt (([] : List UInt8) ++ pint 2 x.create ++ pint 3 x.mod ++ pint 4 x.ver ++ pbytes 5 x.v)) :: Ro (Blk vb (byt x.v ++ vs) tv) :: Ro (Blk pb [.slice (some ⟨kb, 0, none⟩) x.k.length kc, .int .i64 (x.create), .int .i64 (x.mod), .int .i64 (x.ver), .slice (some ⟨vb, 0, none⟩) x.v.length vc, .int .i64 (x.lease)] 204) :: Ro (Blk kb (byt x.k ++ ks) tk) :: F)
      refine WP.val rfl rfl rfl (Val.assign rfl rfl) ?_
      refine WP.nil ?_
      refine Out.next ?_
      refine WPc.seq ?_
      refine WPc.region ?_
      refine WP.val rfl rfl rfl (Val.move rfl rfl) ?_
      refine WP.val rfl rfl rfl (Val.move rfl rfl) ?_
      refine WP.val rfl rfl rfl (Val.nilCheck rfl rfl) ?_
      refine WP.val rfl rfl rfl (Val.fieldAddr (j := 5) rfl Ty.fo204_5 rfl rfl) ?_
      refine WP.val rfl rfl rfl (Val.load rfl Ty.sc2 rfl (fun w h => h.cellRo 2 rfl rfl)) ?_
      have hl12 := pint_len 6 x.lease
      have hm12 : (([] : List UInt8) ++ pint 2 x.create ++ pint 3 x.mod ++ pint 4 x.ver ++ pbytes 5 x.v ++ pint 6 x.lease).length = (([] : List UInt8) ++ pint 2 x.create ++ pint 3 x.mod ++ pint 4 x.ver ++ pbytes 5 x.v).length + (pint 6 x.lease).length := List.length_append
      refine WP.eff rfl rfl rfl (Eff.call rfl rfl Try.call173 (putint_spec pb11 (([] : List UInt8) ++ pint 2 x.create ++ pint 3 x.mod ++ pint 4 x.ver ++ pbytes 5 x.v) 6 x.lease (by first | omega | (simp; done)))) ?_
      rintro pi12 _ ⟨_, rfl, rfl⟩
      show WP _ _ _ _ _ _ _ (Own 5 1 pi12 ((([] : List UInt8) ++ pint 2 x.create ++ pint 3 x.mod ++ pint 4 x.ver ++ pbytes 5 x.v ++ pint 6 x.lease).length) (byt (([] : List UInt8) ++ pint 2 x.create ++ pint 3 x.mod ++ pint 4 x.ver ++ pbytes 5 x.v ++ pint 6 x.lease)) :: Ro (Blk vb (byt x.v ++ vs) tv) :: Ro (Blk pb [.slice (some ⟨kb, 0, none⟩) x.k.length kc, .int .i64 (x.create), .int .i64 (x.mod), .int .i64 (x.ver), .slice (some ⟨vb, 0, none⟩) x.v.length vc, .int .i64 (x.lease)] 204) :: Ro (Blk kb (byt x.k ++ ks) tk) :: F)
      refine WP.val rfl rfl rfl (Val.assign rfl rfl) ?_
      refine WP.nil ?_
      refine Out.next ?_
      refine WPc.ret ?_
      have he : marsh x = ([] : List UInt8) ++ pint 2 x.create ++ pint 3 x.mod ++ pint 4 x.ver ++ pbytes 5 x.v ++ pint 6 x.lease := by
        unfold marsh
        rw [if_neg (by omega), if_pos (by omega)]
        try simp
      refine Out.perm pl1 ?_
      refine Out.drop ?_
      refine Out.perm pl1 ?_
      refine Out.drop ?_
      refine Out.perm pl1 ?_
      refine Out.drop ?_
      exact Out.ret1 (L' := _) Try.results171 rfl rfl (fun w h => by rw [he]; exact h)
    · skip
      have h3 : ¬ ((0 : Int) < ((x.v.length : Nat) : Int)) := h3
      refine WPc.skip ?_
      refine Out.next ?_
      refine WPc.seq ?_
      refine WPc.region ?_
      refine WP.val rfl rfl rfl (Val.move rfl rfl) ?_
      refine WP.val rfl rfl rfl (Val.move rfl rfl) ?_
      refine WP.val rfl rfl rfl (Val.nilCheck rfl rfl) ?_
      refine WP.val rfl rfl rfl (Val.fieldAddr (j := 5) rfl Ty.fo204_5 rfl rfl) ?_
      refine WP.val rfl rfl rfl (Val.load rfl Ty.sc2 rfl (fun w h => h.cellRo 1 rfl rfl)) ?_
      have hl13 := pint_len 6 x.lease
      have hm13 : (([] : List UInt8) ++ pint 2 x.create ++ pint 3 x.mod ++ pint 4 x.ver ++ pint 6 x.lease).length = (([] : List UInt8) ++ pint 2 x.create ++ pint 3 x.mod ++ pint 4 x.ver).length + (pint 6 x.lease).length := List.length_append
      refine WP.eff rfl rfl rfl (Eff.call rfl rfl Try.call173 (putint_spec pi10 (([] : List UInt8) ++ pint 2 x.create ++ pint 3 x.mod ++ pint 4 x.ver) 6 x.lease (by first | omega | (simp; done)))) ?_
      rintro pi13 _ ⟨_, rfl, rfl⟩
      show WP _ _ _ _ _ _ _ (Own 5 1 pi13 ((([] : List UInt8) ++ pint 2 x.create ++ pint 3 x.mod ++ pint 4 x.ver ++ pint 6 x.lease).length) (byt (([] : List UInt8) ++ pint 2 x.create ++ pint 3 x.mod ++ pint 4 x.ver ++ pint 6 x.lease)) :: Ro (Blk pb [.slice (some ⟨kb, 0, none⟩) x.k.length kc, .int .i64 (x.create), .int .i64 (x.mod), .int .i64 (x.ver), .slice (some ⟨vb, 0, none⟩) x.v.length vc, .int .i64 (x.lease)] 204) :: Ro (Blk kb (byt x.k ++ ks) tk) :: Ro (Blk vb (byt x.v ++ vs) tv) :: F)
      refine WP.val rfl rfl rfl (Val.assign rfl rfl) ?_
      refine WP.nil ?_
      refine Out.next ?_
      refine WPc.ret ?_
      have he : marsh x = ([] : List UInt8) ++ pint 2 x.create ++ pint 3 x.mod ++ pint 4 x.ver ++ pint 6 x.lease := by
        unfold marsh
        rw [if_neg (by omega), if_neg (by omega)]
        try simp
      refine Out.perm pl1 ?_
      refine Out.drop ?_
      refine Out.perm pl1 ?_
      refine Out.drop ?_
      refine Out.perm pl1 ?_
      refine Out.drop ?_
      exact Out.ret1 (L' := _) Try.results171 rfl rfl (fun w h => by rw [he]; exact h)
set_option maxRecDepth 100000 in
set_option maxHeartbeats 1000000 in
theorem marshal_spec (pb kb kc vb vc : Nat) (ks vs : List Value) (tk tv : TypeId) (x : KVr) (hk : x.k.length ≤ 100) (hv : x.v.length ≤ 100) (hkc : x.k.length ≤ kc) (hvc : x.v.length ≤ vc) : Does Try.prog 91 [.iface 161 (.pointer (some ⟨pb, 0, none⟩))] [Ro (Blk pb [.slice (some ⟨kb, 0, none⟩) x.k.length kc, .int .i64 (x.create), .int .i64 (x.mod), .int .i64 (x.ver), .slice (some ⟨vb, 0, none⟩) x.v.length vc, .int .i64 (x.lease)] 204), Ro (Blk kb (byt x.k ++ ks) tk), Ro (Blk vb (byt x.v ++ vs) tv)] (fun v L => ∃ u, v = .tuple #[u, .nilIface] ∧ L = [Own 5 1 u ((marsh x).length) (byt (marsh x))]) := by
  refine Does.enter 6 Try.func91 rfl rfl rfl fun W F => ?_
  show WPc _ _ _ _ _ [(0, .iface 161 (.pointer (some ⟨pb, 0, none⟩)))] (Ro (Blk pb [.slice (some ⟨kb, 0, none⟩) x.k.length kc, .int .i64 (x.create), .int .i64 (x.mod), .int .i64 (x.ver), .slice (some ⟨vb, 0, none⟩) x.v.length vc, .int .i64 (x.lease)] 204) :: Ro (Blk kb (byt x.k ++ ks) tk) :: Ro (Blk vb (byt x.v ++ vs) tv) :: F)
  refine WPc.seq ?_
  refine WPc.region ?_
  refine WP.val rfl rfl rfl (Val.assign rfl rfl) ?_
  refine WP.val rfl rfl rfl (Val.assign rfl rfl) ?_
  refine WP.nil ?_
  refine Out.next ?_
  refine WPc.seq ?_
  refine WPc.region ?_
  refine WP.val rfl rfl rfl (Val.move rfl rfl) ?_
  refine WP.perm pl2 ?_
  refine WP.perm pl2 ?_
  refine WP.perm pl2 ?_
  refine WP.eff rfl rfl rfl (Eff.invoke (f := 171) rfl rfl rfl (fun _ => by kernel_rfl) Try.call171 (fields_spec pb kb kc vb vc ks vs tk tv x hk hv hkc hvc)) ?_
  rintro u _ ⟨_, rfl, rfl⟩
  show WP _ _ _ _ _ _ _ (Own 5 1 u ((marsh x).length) (byt (marsh x)) :: F)
  refine WP.val rfl rfl rfl (Val.assign rfl rfl) ?_
  refine WP.val rfl rfl rfl (Val.assign rfl rfl) ?_
  refine WP.nil ?_
  refine Out.next ?_
  refine WPc.ret ?_
  exact Out.ret2 (L' := _) Try.results91 rfl rfl ⟨u, rfl, rfl⟩ (fun _ h => h)
set_option maxRecDepth 100000 in
set_option maxHeartbeats 1000000 in
theorem kvin_spec (x : KVr) : Does Try.prog 71 [.agg #[.string x.key, .string x.val, .int .i64 (x.create), .int .i64 (x.mod), .int .i64 (x.ver), .int .i64 (x.lease)]] [] (fun v L => ∃ pb kb kc ks vb vc vs, (x.k.length ≤ kc ∧ x.v.length ≤ vc) ∧ v = .pointer (some ⟨pb, 0, none⟩) ∧ L = [Blk pb [.slice (some ⟨kb, 0, none⟩) x.k.length kc, .int .i64 (x.create), .int .i64 (x.mod), .int .i64 (x.ver), .slice (some ⟨vb, 0, none⟩) x.v.length vc, .int .i64 (x.lease)] 204, Blk kb (byt x.k ++ ks) 5, Blk vb (byt x.v ++ vs) 5]) := by
  refine Does.enter 19 Try.func71 rfl rfl rfl fun W F => ?_
  show WPc _ _ _ _ _ [(0, .agg #[.string x.key, .string x.val, .int .i64 (x.create), .int .i64 (x.mod), .int .i64 (x.ver), .int .i64 (x.lease)])] (F)
  refine WPc.seq ?_
  refine WPc.region ?_
  refine WP.eff rfl rfl rfl (Eff.box (C := [.string x.key, .string x.val, .int .i64 (x.create), .int .i64 (x.mod), .int .i64 (x.ver), .int .i64 (x.lease)]) rfl rfl rfl) ?_
  rintro _ _ ⟨b1, rfl, rfl⟩
  refine WP.val rfl rfl rfl (Val.assign rfl rfl) ?_
  refine WP.nil ?_
  refine Out.next ?_
  refine WPc.seq ?_
  refine WPc.region ?_
  refine WP.val rfl rfl rfl (Val.fieldAddr (j := 0) rfl Ty.fo104_0 rfl rfl) ?_
  refine WP.val rfl rfl rfl (Val.load rfl Ty.sc9 rfl (fun w h => h.cell 0 rfl rfl)) ?_
  refine WP.eff rfl rfl rfl (Eff.bytes rfl Ty.st9 Ty.by86 rfl) ?_
  rintro _ _ ⟨b2, capb2, spb2, rfl, hcb2, hsb2, rfl⟩
  refine WP.val rfl rfl rfl (Val.fieldAddr (j := 1) rfl Ty.fo104_1 rfl rfl) ?_
  refine WP.val rfl rfl rfl (Val.load rfl Ty.sc9 rfl (fun w h => h.cell 1 rfl rfl)) ?_
  refine WP.eff rfl rfl rfl (Eff.bytes rfl Ty.st9 Ty.by86 rfl) ?_
  rintro _ _ ⟨b3, capb3, spb3, rfl, hcb3, hsb3, rfl⟩
  refine WP.val rfl rfl rfl (Val.fieldAddr (j := 2) rfl Ty.fo104_2 rfl rfl) ?_
  refine WP.val rfl rfl rfl (Val.load rfl Ty.sc2 rfl (fun w h => h.cell 2 rfl rfl)) ?_
  refine WP.val rfl rfl rfl (Val.fieldAddr (j := 3) rfl Ty.fo104_3 rfl rfl) ?_
  refine WP.val rfl rfl rfl (Val.load rfl Ty.sc2 rfl (fun w h => h.cell 2 rfl rfl)) ?_
  refine WP.val rfl rfl rfl (Val.fieldAddr (j := 4) rfl Ty.fo104_4 rfl rfl) ?_
  refine WP.val rfl rfl rfl (Val.load rfl Ty.sc2 rfl (fun w h => h.cell 2 rfl rfl)) ?_
  refine WP.val rfl rfl rfl (Val.fieldAddr (j := 5) rfl Ty.fo104_5 rfl rfl) ?_
  refine WP.val rfl rfl rfl (Val.load rfl Ty.sc2 rfl (fun w h => h.cell 2 rfl rfl)) ?_
  refine WP.val rfl rfl rfl (Val.mk (cs := [.slice (some ⟨b2, 0, none⟩) ((x.key).size) capb2, .int .i64 (x.create), .int .i64 (x.mod), .int .i64 (x.ver), .slice (some ⟨b3, 0, none⟩) ((x.val).size) capb3, .int .i64 (x.lease)]) rfl rfl (fun _ => by kernel_rfl)) ?_
  refine WP.eff rfl rfl rfl (Eff.box (C := [.slice (some ⟨b2, 0, none⟩) ((x.key).size) capb2, .int .i64 (x.create), .int .i64 (x.mod), .int .i64 (x.ver), .slice (some ⟨b3, 0, none⟩) ((x.val).size) capb3, .int .i64 (x.lease)]) rfl rfl rfl) ?_
  rintro _ _ ⟨b4, rfl, rfl⟩
  refine WP.val rfl rfl rfl (Val.assign rfl rfl) ?_
  refine WP.nil ?_
  refine Out.next ?_
  refine WPc.ret ?_
  refine Out.perm pl3 ?_
  refine Out.drop ?_
  refine Out.perm pl1 ?_
  refine Out.perm pl2 ?_
  refine Out.perm pl2 ?_
  exact Out.ret1 (L' := _) Try.results71 rfl ⟨b4, b2, capb2, spb2, b3, capb3, spb3, ⟨hcb2, hcb3⟩, rfl, rfl⟩ (fun _ h => h)

end Go.Proofs.Ythmkdioafjmclaa.Hm
