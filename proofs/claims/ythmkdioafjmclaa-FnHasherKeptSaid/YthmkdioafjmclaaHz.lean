import Derived.Test.YthmkdioafjmclaaHl
namespace Go.Proofs.Ythmkdioafjmclaa.Hz
open Go.RowKit Go.Proofs.Ythmkdioafjmclaa Go.Proofs.Ythmkdioafjmclaa.Sl Go.Proofs.Ythmkdioafjmclaa.Hc Go.Proofs.Ythmkdioafjmclaa.Hp Go.Proofs.Ythmkdioafjmclaa.Hm Go.Proofs.Ythmkdioafjmclaa.Hb Go.Proofs.Ythmkdioafjmclaa.Hk Go.Proofs.Ythmkdioafjmclaa.Hr Go.Proofs.Ythmkdioafjmclaa.Hy Go.Proofs.Ythmkdioafjmclaa.Hn Go.Proofs.Ythmkdioafjmclaa.Hw
set_option linter.unusedVariables false
set_option linter.unusedSimpArgs false
set_option linter.unusedSectionVars false


structure Rw where
  m : Int
  s : Int
  gone : Bool
  kv : KVr
def Rw.cells (x : Rw) : List Value := [.int .i64 x.m, .int .i64 x.s, .bool x.gone, .string x.kv.key, .string x.kv.val, .int .i64 x.kv.create, .int .i64 x.kv.mod, .int .i64 x.kv.ver, .int .i64 x.kv.lease]
theorem Rw.len (x : Rw) : x.cells.length = 9 := rfl
structure ZR where
  x : Rw
  p : Nat
def ZR.cells (z : ZR) : List Value := [.int .i64 z.x.m, .int .i64 z.x.s, .bool z.x.gone, .pointer (some ⟨z.p, 0, none⟩)]
theorem ZR.len (z : ZR) : z.cells.length = 4 := rfl
def KvAt (p : Nat) (x : KVr) : HProp := Ex fun q : (Nat × Nat × List Value) × (Nat × Nat × List Value) => Sep [Pure (x.k.length ≤ q.1.2.1 ∧ x.v.length ≤ q.2.2.1),
  Ro (Blk p [.slice (some ⟨q.1.1, 0, none⟩) x.k.length q.1.2.1, .int .i64 x.create, .int .i64 x.mod, .int .i64 x.ver, .slice (some ⟨q.2.1, 0, none⟩) x.v.length q.2.2.1, .int .i64 x.lease] 204), Ro (Blk q.1.1 (byt x.k ++ q.1.2.2) 5), Ro (Blk q.2.1 (byt x.v ++ q.2.2.2) 5)]
theorem KvAt.pers {p : Nat} {x : KVr} : Pers (KvAt p x) := Pers.ex fun q => Pers.sep (by
  simp only [List.mem_cons, List.not_mem_nil, or_false]
  rintro A (rfl | rfl | rfl | rfl)
  · exact Pers.pure
  · exact Pers.ro
  · exact Pers.ro
  · exact Pers.ro)
def KvZ (z : ZR) : HProp := KvAt z.p z.x.kv
theorem kv_mk {W w : World} {p kb kc vb vc : Nat} {ks vs : List Value} {x : KVr} {L : List HProp} (hc : x.k.length ≤ kc ∧ x.v.length ≤ vc)
    (h : Sat W (Blk p [.slice (some ⟨kb, 0, none⟩) x.k.length kc, .int .i64 x.create, .int .i64 x.mod, .int .i64 x.ver, .slice (some ⟨vb, 0, none⟩) x.v.length vc, .int .i64 x.lease] 204 :: Blk kb (byt x.k ++ ks) 5 :: Blk vb (byt x.v ++ vs) 5 :: L) w) : Sat W (KvAt p x :: L) w := by
  have h1 := h.freeze.perm (pl1 (L := _))
  have h2 := h1.freeze.perm (List.Perm.swap _ _ _)
  have h3 := (h2.perm pl2).freeze
  have h4 : Sat W ([Ro (Blk p [.slice (some ⟨kb, 0, none⟩) x.k.length kc, .int .i64 x.create, .int .i64 x.mod, .int .i64 x.ver, .slice (some ⟨vb, 0, none⟩) x.v.length vc, .int .i64 x.lease] 204), Ro (Blk kb (byt x.k ++ ks) 5), Ro (Blk vb (byt x.v ++ vs) 5)] ++ L) w := h3.perm (by
    refine (List.Perm.swap _ _ _).trans ?_
    exact (List.Perm.swap _ _ _).cons _)
  exact Sat.ex_mk ((kb, kc, ks), (vb, vc, vs)) (Sat.sep_mk (Sat.pure_mk hc h4))
theorem kvz_add {W w : World} {p : Nat} {x : Rw} {zs : List ZR} {L : List HProp} (h : Sat W (KvAt p x.kv :: AllP KvZ zs :: L) w) : Sat W (AllP KvZ (zs ++ [⟨x, p⟩]) :: L) w :=
  Sat.allAdd (f := KvZ) (x := ⟨x, p⟩) KvAt.pers (by
    intro y hy
    rcases List.mem_append.1 hy with h | h
    · exact .inr h
    · exact .inl (by simpa using h)) h

end Go.Proofs.Ythmkdioafjmclaa.Hz
