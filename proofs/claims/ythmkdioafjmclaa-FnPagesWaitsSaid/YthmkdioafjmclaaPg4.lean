import Derived.Test.YthmkdioafjmclaaPg3
import Derived.Test.YthmkdioafjmclaaSlRead
namespace Go.Proofs.Ythmkdioafjmclaa.Pg4
open Go.RowKit Go.Proofs.Ythmkdioafjmclaa Go.Proofs.Ythmkdioafjmclaa.Sl Go.Proofs.Ythmkdioafjmclaa.PgModel Go.Proofs.Ythmkdioafjmclaa.Pg Go.Proofs.Ythmkdioafjmclaa.Pg2 Go.Proofs.Ythmkdioafjmclaa.Pg3
set_option linter.unusedVariables false
set_option linter.unusedSimpArgs false


structure PgOp where
  text : ByteArray
  fl : Bool
def PgOp.cells (x : PgOp) : List Value := [.string x.text, .bool x.fl]
def opStep (page B : Nat) (s : Nat × List UInt8) (x : PgOp) : Nat × List UInt8 := if x.fl then (offs page s.1 s.2, []) else (wr page B s.1 s.2 x.text.data.toList).2
def opAns (page B : Nat) (s : Nat × List UInt8) (x : PgOp) : Int × List ByteArray := if x.fl then (0, (outs s.2).map str) else ((x.text.size : Nat), (wr page B s.1 s.2 x.text.data.toList).1.map str)
def behindOps (page B : Nat) (s : Nat × List UInt8) (l : List PgOp) : Nat × List UInt8 := l.foldl (opStep page B) s
def answers (page B : Nat) : Nat × List UInt8 → List PgOp → List (Int × List ByteArray)
  | _, [] => []
  | s, x :: l => opAns page B s x :: answers page B (opStep page B s x) l
theorem behind_snoc (page B : Nat) (s : Nat × List UInt8) (l : List PgOp) (x : PgOp) : behindOps page B s (l ++ [x]) = opStep page B (behindOps page B s l) x := by simp [behindOps]
theorem answers_snoc (page B : Nat) : ∀ (s : Nat × List UInt8) (l : List PgOp) (x : PgOp), answers page B s (l ++ [x]) = answers page B s l ++ [opAns page B (behindOps page B s l) x]
  | s, [], x => rfl
  | s, y :: l, x => by
    simp only [List.cons_append, answers]
    rw [answers_snoc page B _ l x]
    rfl
theorem answers_len (page B : Nat) : ∀ (s : Nat × List UInt8) (l : List PgOp), (answers page B s l).length = l.length
  | _, [] => rfl
  | s, x :: l => by simp only [answers, List.length_cons]; rw [answers_len page B _ l]
/-- what is so between two operations -/
structure PGood (page B : Nat) (s : Nat × List UInt8) : Prop where
  fit : Fit page B s.1 s.2.length
  off : s.1 ≤ 4294967296
theorem good_step {page B : Nat} {s : Nat × List UInt8} {x : PgOp} (hp : 0 < page) (hpb : page ≤ B) (hB : B ≤ 1048576) (h : PGood page B s) : PGood page B (opStep page B s x) := by
  unfold opStep
  split
  · exact ⟨fit_small hp (by simp), offs_le hp hpb hB h.off⟩
  · refine ⟨wr_fit hp hpb h.fit, ?_⟩
    unfold wr rest
    have := @offs_le page B s.1
    split
    · exact h.off
    · split
      · split
        · exact h.off
        · split <;> exact offs_le hp hpb hB h.off
      · split <;> exact offs_le hp hpb hB h.off
structure An where
  n : Int
  v : Value
  ss : List ByteArray
def An.cells (x : An) : List Value := [.int .i64 x.n, x.v]
theorem An.len (x : An) : x.cells.length = 2 := rfl
def An.key (x : An) : Int × List ByteArray := (x.n, x.ss)
def Ans (l : List An) : HProp := AllP (fun x : An => Strs x.v x.ss) l
theorem ans_add {W w : World} {n : Int} {v : Value} {ss : List ByteArray} {l : List An} {L : List HProp} (h : Sat W (Strs v ss :: Ans l :: L) w) : Sat W (Ans (l ++ [⟨n, v, ss⟩]) :: L) w :=
  Sat.allAdd (f := fun x : An => Strs x.v x.ss) (x := ⟨n, v, ss⟩) Seq.pers (by
    intro y hy
    rcases List.mem_append.1 hy with h | h
    · exact .inr h
    · exact .inl (by simpa using h)) h
theorem zeros_byt (c : Nat) : (List.replicate c [Value.int .u8 0]).flatten = byt (List.replicate c 0) := by
  induction c with
  | zero => rfl
  | succ c ih => rw [List.replicate_succ, List.flatten_cons, ih]; rfl
set_option maxRecDepth 100000 in
set_option maxHeartbeats 1000000 in
theorem assert_spec (m v : Value) : Does Try.prog 85 [.bool true, m, v] [] (fun u L => u = .tuple #[] ∧ L = []) := by
  refine Does.enter 10 Try.func85 rfl rfl rfl fun W F => ?_
  show WPc _ _ _ _ _ [(0, .bool true), (1, m), (2, v)] (F)
  refine WPc.seq ?_
  refine WPc.region ?_
  refine WP.val rfl rfl rfl (Val.move rfl rfl) ?_
  refine WP.val rfl rfl rfl (Val.not rfl rfl) ?_
  refine WP.nil ?_
  refine Out.next ?_
  refine WPc.condF rfl rfl ?_
  refine WPc.skip ?_
  exact Out.end0 (L' := []) Try.results85 ⟨rfl, rfl⟩ (fun _ h => h)
set_option maxRecDepth 100000 in
set_option maxHeartbeats 1000000 in
theorem newpw_spec (bb page off : Nat) (hp : 0 < page) (hpm : page ≤ 1048576) : Does Try.prog 56 [.iface 76 (.pointer (some ⟨bb, 0, none⟩)), .int .i64 (((page : Nat) : Int)), .int .i64 (((off : Nat) : Int))] [] (fun u L => ∃ pw b0, u = .pointer (some ⟨pw, 0, none⟩) ∧ L = [Blk pw [.iface 76 (.pointer (some ⟨bb, 0, none⟩)), .int .i64 ((off : Nat) : Int), .int .i64 ((page : Nat) : Int), .int .i64 0, .slice (some ⟨b0, 0, none⟩) (131072 + page) (131072 + page), .int .i64 131072] 125]) := by
  refine Does.enter 20 Try.func56 rfl rfl rfl fun W F => ?_
  show WPc _ _ _ _ _ [(0, .iface 76 (.pointer (some ⟨bb, 0, none⟩))), (1, .int .i64 (((page : Nat) : Int))), (2, .int .i64 (((off : Nat) : Int)))] (F)
  refine WPc.seq ?_
  refine WPc.region ?_
  refine WP.val rfl rfl rfl (Val.assign rfl rfl) ?_
  refine WP.nil ?_
  refine Out.next ?_
  refine WPc.seq ?_
  refine WPc.region ?_
  refine WP.val rfl rfl rfl (Val.move rfl rfl) ?_
  refine WP.val rfl rfl rfl (Val.gtr rfl rfl rfl) ?_
  refine WP.val rfl rfl rfl (Val.move rfl rfl) ?_
  refine WP.eff rfl rfl rfl (Eff.mkSlice (C := [.int .i64 (((page : Nat) : Int))]) rfl Ty.sl70 rfl (fun _ => by kernel_rfl)) ?_
  rintro _ _ ⟨b1, rfl, rfl⟩
  refine WP.know 8 (.bool true) rfl (congrArg Value.bool (decide_eq_true (by omega))) ?_
  refine WP.eff rfl rfl rfl (Eff.call rfl rfl Try.call85 (assert_spec _ _)) ?_
  rintro _ _ ⟨_, ⟨rfl, rfl⟩, rfl⟩
  show WP _ _ _ _ _ _ _ (Blk b1 [.int .i64 (((page : Nat) : Int))] 3 :: F)
  refine WP.nil ?_
  refine Out.next ?_
  refine WPc.seq ?_
  refine WPc.region ?_
  refine WP.val rfl rfl rfl (Val.move rfl rfl) ?_
  refine WP.val rfl rfl rfl (Val.move rfl rfl) ?_
  refine WP.val rfl rfl rfl (Val.move rfl rfl) ?_
  refine WP.val rfl rfl rfl (Val.move rfl rfl) ?_
  refine WP.val rfl rfl rfl (Val.add (z := ((131072 + page : Nat) : Int)) rfl rfl rfl ((w64 (by omega) (by omega)).trans (by omega))) ?_
  refine WP.eff rfl rfl rfl (Eff.makeSlice (m := 131072 + page) (c := 131072 + page) (z := [.int .u8 0]) rfl Ty.sl86 Ty.z5 rfl rfl rfl rfl rfl (by omega) (by omega) (by omega)) ?_
  rintro _ _ ⟨b2, rfl, rfl⟩
  refine WP.val rfl rfl rfl (Val.mk (cs := [.iface 76 (.pointer (some ⟨bb, 0, none⟩)), .int .i64 (((off : Nat) : Int)), .int .i64 (((page : Nat) : Int)), .int .i64 0, .slice (some ⟨b2, 0, none⟩) (131072 + page) (131072 + page), .int .i64 131072]) rfl rfl (fun _ => by kernel_rfl)) ?_
  refine WP.eff rfl rfl rfl (Eff.box (C := [.iface 76 (.pointer (some ⟨bb, 0, none⟩)), .int .i64 (((off : Nat) : Int)), .int .i64 (((page : Nat) : Int)), .int .i64 0, .slice (some ⟨b2, 0, none⟩) (131072 + page) (131072 + page), .int .i64 131072]) rfl rfl rfl) ?_
  rintro _ _ ⟨b3, rfl, rfl⟩
  refine WP.val rfl rfl rfl (Val.assign rfl rfl) ?_
  refine WP.nil ?_
  refine Out.next ?_
  refine WPc.ret ?_
  refine Out.perm pl1 ?_
  refine Out.drop ?_
  refine Out.perm pl1 ?_
  refine Out.drop ?_
  exact Out.ret1 (L' := _) Try.results56 rfl ⟨b3, b2, rfl, rfl⟩ (fun _ h => h)
set_option maxRecDepth 100000 in
set_option maxHeartbeats 1000000 in
theorem zznew_spec (bb page B off : Nat) (hp : 0 < page) (hpb : page ≤ B) (hB : B ≤ 1048576) : Does Try.prog 32 [.iface 76 (.pointer (some ⟨bb, 0, none⟩)), .int .i64 (((B : Nat) : Int)), .int .i64 (((page : Nat) : Int)), .int .i64 (((off : Nat) : Int))] [] (fun u L => ∃ pw bf junk, ([] : List UInt8).length + junk.length = B + page ∧ u = .pointer (some ⟨pw, 0, none⟩) ∧ L = [Blk pw [.iface 76 (.pointer (some ⟨bb, 0, none⟩)), .int .i64 ((off : Nat) : Int), .int .i64 ((page : Nat) : Int), .int .i64 ((([] : List UInt8).length : Nat) : Int), .slice (some ⟨bf, 0, none⟩) (B + page) (B + page), .int .i64 ((B : Nat) : Int)] 125, Blk bf (byt [] ++ byt junk) 5]) := by
  refine Does.enter 26 Try.func32 rfl rfl rfl fun W F => ?_
  show WPc _ _ _ _ _ [(0, .iface 76 (.pointer (some ⟨bb, 0, none⟩))), (1, .int .i64 (((B : Nat) : Int))), (2, .int .i64 (((page : Nat) : Int))), (3, .int .i64 (((off : Nat) : Int)))] (F)
  refine WPc.seq ?_
  refine WPc.region ?_
  refine WP.val rfl rfl rfl (Val.assign rfl rfl) ?_
  refine WP.nil ?_
  refine Out.next ?_
  refine WPc.seq ?_
  refine WPc.region ?_
  refine WP.val rfl rfl rfl (Val.move rfl rfl) ?_
  refine WP.val rfl rfl rfl (Val.move rfl rfl) ?_
  refine WP.val rfl rfl rfl (Val.move rfl rfl) ?_
  refine WP.eff rfl rfl rfl (Eff.call rfl rfl Try.call56 (newpw_spec bb page off hp (by omega))) ?_
  rintro _ _ ⟨_, ⟨pw, b0, rfl, rfl⟩, rfl⟩
  show WP _ _ _ _ _ _ _ (Blk pw [.iface 76 (.pointer (some ⟨bb, 0, none⟩)), .int .i64 (((off : Nat) : Int)), .int .i64 (((page : Nat) : Int)), .int .i64 0, .slice (some ⟨b0, 0, none⟩) ((131072 + page)) ((131072 + page)), .int .i64 131072] 125 :: F)
  refine WP.val rfl rfl rfl (Val.assign rfl rfl) ?_
  refine WP.nil ?_
  refine Out.next ?_
  refine WPc.seq ?_
  refine WPc.region ?_
  refine WP.val rfl rfl rfl (Val.move rfl rfl) ?_
  refine WP.val rfl rfl rfl (Val.move rfl rfl) ?_
  refine WP.val rfl rfl rfl (Val.move rfl rfl) ?_
  refine WP.val rfl rfl rfl (Val.add (z := ((B + page : Nat) : Int)) rfl rfl rfl ((w64 (by omega) (by omega)).trans (by omega))) ?_
  refine WP.eff rfl rfl rfl (Eff.makeSlice (m := B + page) (c := B + page) (z := [.int .u8 0]) rfl Ty.sl86 Ty.z5 rfl rfl rfl rfl rfl (by omega) (by omega) (by omega)) ?_
  rintro _ _ ⟨b1, rfl, rfl⟩
  refine WP.val rfl rfl rfl (Val.nilCheck rfl rfl) ?_
  refine WP.val rfl rfl rfl (Val.fieldAddr (j := 4) rfl Ty.fo125_4 rfl rfl) ?_
  refine WP.perm pl1 ?_
  refine WP.eff0 rfl rfl (Eff.store rfl Ty.sc86 rfl rfl rfl (by simp) st4) ?_
  rintro _ _ rfl
  refine WP.nil ?_
  refine Out.next ?_
  refine WPc.seq ?_
  refine WPc.region ?_
  refine WP.val rfl rfl rfl (Val.move rfl rfl) ?_
  refine WP.val rfl rfl rfl (Val.move rfl rfl) ?_
  refine WP.val rfl rfl rfl (Val.nilCheck rfl rfl) ?_
  refine WP.val rfl rfl rfl (Val.fieldAddr (j := 5) rfl Ty.fo125_5 rfl rfl) ?_
  refine WP.eff0 rfl rfl (Eff.store rfl Ty.sc3 rfl rfl rfl (by simp) st5) ?_
  rintro _ _ rfl
  refine WP.nil ?_
  refine Out.next ?_
  refine WPc.seq ?_
  refine WPc.region ?_
  refine WP.val rfl rfl rfl (Val.move rfl rfl) ?_
  refine WP.val rfl rfl rfl (Val.assign rfl rfl) ?_
  refine WP.nil ?_
  refine Out.next ?_
  refine WPc.ret ?_
  exact Out.ret1 (L' := _) Try.results32 rfl ⟨pw, b1, List.replicate (B + page) 0, by simp, rfl, rfl⟩ (fun w h => by rw [zeros_byt] at h; exact h)

end Go.Proofs.Ythmkdioafjmclaa.Pg4
