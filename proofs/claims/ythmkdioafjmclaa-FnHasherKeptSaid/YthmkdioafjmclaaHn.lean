import Derived.Test.YthmkdioafjmclaaHy
namespace Go.Proofs.Ythmkdioafjmclaa.Hn
open Go.RowKit Go.Proofs.Ythmkdioafjmclaa Go.Proofs.Ythmkdioafjmclaa.Sl Go.Proofs.Ythmkdioafjmclaa.Hc Go.Proofs.Ythmkdioafjmclaa.Hp Go.Proofs.Ythmkdioafjmclaa.Hm Go.Proofs.Ythmkdioafjmclaa.Hb Go.Proofs.Ythmkdioafjmclaa.Hk Go.Proofs.Ythmkdioafjmclaa.Hr Go.Proofs.Ythmkdioafjmclaa.Hy
set_option linter.unusedVariables false
set_option linter.unusedSimpArgs false
set_option linter.unusedSectionVars false


def keyN : List UInt8 := [107, 101, 121]
set_option maxRecDepth 100000 in
set_option maxHeartbeats 1000000 in
theorem sum_spec (cb : Nat) (u : Int) : Does Try.prog 97 [.pointer (some ⟨cb, 0, none⟩)] [Blk cb [.int .u32 (u)] 227] (fun v L => v = .int .u32 u ∧ L = [Blk cb [.int .u32 u] 227]) := by
  refine Does.enter 7 Try.func97 rfl rfl rfl fun W F => ?_
  show WPc _ _ _ _ _ [(0, .pointer (some ⟨cb, 0, none⟩))] (Blk cb [.int .u32 (u)] 227 :: F)
  refine WPc.seq ?_
  refine WPc.region ?_
  refine WP.val rfl rfl rfl (Val.assign rfl rfl) ?_
  refine WP.nil ?_
  refine Out.next ?_
  refine WPc.seq ?_
  refine WPc.region ?_
  refine WP.val rfl rfl rfl (Val.move rfl rfl) ?_
  refine WP.val rfl rfl rfl (Val.nilCheck rfl rfl) ?_
  refine WP.val rfl rfl rfl (Val.fieldAddr (j := 0) rfl Ty.fo227_0 rfl rfl) ?_
  refine WP.val rfl rfl rfl (Val.load rfl Ty.sc49 rfl (fun w h => h.cell 0 rfl rfl)) ?_
  refine WP.val rfl rfl rfl (Val.assign rfl rfl) ?_
  refine WP.nil ?_
  refine Out.next ?_
  refine WPc.ret ?_
  exact Out.ret1 (L' := _) Try.results97 rfl ⟨rfl, rfl⟩ (fun _ h => h)
set_option maxRecDepth 100000 in
set_option maxHeartbeats 1000000 in
theorem newsum_spec : Does Try.prog 88 [] [] (fun v L => ∃ cb, v = .pointer (some ⟨cb, 0, none⟩) ∧ L = [Blk cb [.int .u32 0] 227]) := by
  refine Does.enter 3 Try.func88 rfl rfl rfl fun W F => ?_
  show WPc _ _ _ _ _ [] (F)
  refine WPc.seq ?_
  refine WPc.region ?_
  refine WP.val rfl rfl rfl (Val.assign rfl rfl) ?_
  refine WP.nil ?_
  refine Out.next ?_
  refine WPc.seq ?_
  refine WPc.region ?_
  refine WP.val rfl rfl rfl (Val.mk (cs := [.int .u32 0]) rfl rfl (fun _ => by kernel_rfl)) ?_
  refine WP.eff rfl rfl rfl (Eff.box (C := [.int .u32 0]) rfl rfl rfl) ?_
  rintro _ _ ⟨b1, rfl, rfl⟩
  refine WP.val rfl rfl rfl (Val.assign rfl rfl) ?_
  refine WP.nil ?_
  refine Out.next ?_
  refine WPc.ret ?_
  exact Out.ret1 (L' := _) Try.results88 rfl ⟨b1, rfl, rfl⟩ (fun _ h => h)
set_option maxRecDepth 100000 in
set_option maxHeartbeats 1000000 in
theorem bkt_spec : Does Try.prog 90 [] [] (fun v L => v = .iface 231 (.agg #[.int .i64 1, .string (⟨#[107, 101, 121]⟩), .bool true]) ∧ L = []) := by
  refine Does.enter 3 Try.func90 rfl rfl rfl fun W F => ?_
  show WPc _ _ _ _ _ [] (F)
  refine WPc.seq ?_
  refine WPc.region ?_
  refine WP.val rfl rfl rfl (Val.assign rfl rfl) ?_
  refine WP.nil ?_
  refine Out.next ?_
  refine WPc.seq ?_
  refine WPc.region ?_
  refine WP.val rfl rfl rfl (Val.mk (cs := [.int .i64 1, .string (⟨#[107, 101, 121]⟩), .bool true]) rfl rfl (fun _ => by kernel_rfl)) ?_
  refine WP.val rfl rfl rfl (Val.iface rfl rfl Ty.ni231) ?_
  refine WP.val rfl rfl rfl (Val.assign rfl rfl) ?_
  refine WP.nil ?_
  refine Out.next ?_
  refine WPc.ret ?_
  exact Out.ret1 (L' := []) Try.results90 rfl ⟨rfl, rfl⟩ (fun _ h => h)
set_option maxRecDepth 100000 in
set_option maxHeartbeats 1000000 in
theorem name_spec : Does Try.prog 178 [.agg #[.int .i64 1, .string (⟨#[107, 101, 121]⟩), .bool true]] [] (fun v L => ∃ b c sp, 3 ≤ c ∧ v = .slice (some ⟨b, 0, none⟩) 3 c ∧ L = [Blk b (byt keyN ++ sp) 5]) := by
  refine Does.enter 6 Try.func178 rfl rfl rfl fun W F => ?_
  show WPc _ _ _ _ _ [(0, .agg #[.int .i64 1, .string (⟨#[107, 101, 121]⟩), .bool true])] (F)
  refine WPc.seq ?_
  refine WPc.region ?_
  refine WP.eff rfl rfl rfl (Eff.box (C := [.int .i64 1, .string (⟨#[107, 101, 121]⟩), .bool true]) rfl rfl rfl) ?_
  rintro _ _ ⟨b1, rfl, rfl⟩
  refine WP.val rfl rfl rfl (Val.assign rfl rfl) ?_
  refine WP.nil ?_
  refine Out.next ?_
  refine WPc.seq ?_
  refine WPc.region ?_
  refine WP.val rfl rfl rfl (Val.fieldAddr (j := 1) rfl Ty.fo231_1 rfl rfl) ?_
  refine WP.val rfl rfl rfl (Val.load rfl Ty.sc9 rfl (fun w h => h.cell 0 rfl rfl)) ?_
  refine WP.eff rfl rfl rfl (Eff.bytes rfl Ty.st9 Ty.by86 rfl) ?_
  rintro _ _ ⟨b2, capb2, spb2, rfl, hcb2, hsb2, rfl⟩
  refine WP.val rfl rfl rfl (Val.assign rfl rfl) ?_
  refine WP.nil ?_
  refine Out.next ?_
  refine WPc.ret ?_
  refine Out.perm pl1 ?_
  refine Out.drop ?_
  exact Out.ret1 (L' := _) Try.results178 rfl ⟨b2, capb2, spb2, hcb2, rfl, rfl⟩ (fun w h => h)

theorem key_at {i j : Nat} {x : UInt8} {v : Value} {sp : List Value} (hx : keyN[i]? = some x) (hj : (bcf x)[j]? = some v) : (byt keyN ++ sp)[i + j]? = some v := by
  cases j with
  | zero =>
    have h1 := (List.getElem?_eq_some_iff.1 hx).1
    rw [Nat.add_zero, List.getElem?_append_left (by simpa [byt] using h1), byt_at hx]
    simpa [bcf] using hj
  | succ j => simp [bcf] at hj
set_option maxRecDepth 100000 in
set_option maxHeartbeats 1000000 in
theorem newhasher_spec (c r : Int) (mb : Nat) : Does Try.prog 65 [.int .i64 (c), .int .i64 (r), .map (some mb)] [] (fun v L => ∃ cb, v = .agg #[.pointer (some ⟨cb, 0, none⟩), .int .i64 c, .int .i64 r, .map (some mb)] ∧ L = [Blk cb [.int .u32 (crcWrite 0 keyN)] 227]) := by
  refine Does.enter 18 Try.func65 rfl rfl rfl fun W F => ?_
  show WPc _ _ _ _ _ [(0, .int .i64 (c)), (1, .int .i64 (r)), (2, .map (some mb))] (F)
  refine WPc.seq ?_
  refine WPc.region ?_
  refine WP.eff rfl rfl rfl (Eff.alloc rfl Ty.z148) ?_
  rintro _ _ ⟨b1, rfl, rfl⟩
  refine WP.nil ?_
  refine Out.next ?_
  refine WPc.seq ?_
  refine WPc.region ?_
  refine WP.eff rfl rfl rfl (Eff.call rfl rfl Try.call88 (newsum_spec)) ?_
  rintro _ _ ⟨_, ⟨cb, rfl, rfl⟩, rfl⟩
  show WP _ _ _ _ _ _ _ (Blk cb [.int .u32 (0)] 227 :: Blk b1 [.pointer none, .int .i64 0, .int .i64 0, .map none] 148 :: F)
  refine WP.val rfl rfl rfl (Val.assign rfl rfl) ?_
  refine WP.nil ?_
  refine Out.next ?_
  refine WPc.seq ?_
  refine WPc.region ?_
  refine WP.val rfl rfl rfl (Val.move rfl rfl) ?_
  refine WP.eff rfl rfl rfl (Eff.call rfl rfl Try.call90 (bkt_spec)) ?_
  rintro _ _ ⟨_, ⟨rfl, rfl⟩, rfl⟩
  show WP _ _ _ _ _ _ _ (Blk cb [.int .u32 (0)] 227 :: Blk b1 [.pointer none, .int .i64 0, .int .i64 0, .map none] 148 :: F)
  refine WP.eff rfl rfl rfl (Eff.invoke (f := 178) rfl rfl rfl (fun _ => by kernel_rfl) Try.call178 (name_spec)) ?_
  rintro _ _ ⟨_, ⟨nb, nc, nsp, hnc, rfl, rfl⟩, rfl⟩
  show WP _ _ _ _ _ _ _ (Blk nb (byt keyN ++ nsp) 5 :: Blk cb [.int .u32 (0)] 227 :: Blk b1 [.pointer none, .int .i64 0, .int .i64 0, .map none] 148 :: F)
  refine WP.perm pl1 ?_
  refine WP.eff rfl rfl rfl (Eff.call rfl rfl Try.call89 (crc_spec (Blk nb (byt keyN ++ nsp) 5) cb 0 keyN (by decide) (.slice (some ⟨nb, 0, none⟩) 3 nc) (.inl ⟨nb, 0, nc, rfl, fun w h i x hx => by rw [Nat.zero_add, Nat.mul_one]; exact fun j v hj => (h.cell _).trans (key_at hx hj)⟩))) ?_
  rintro _ _ ⟨_, ⟨kk, rfl, rfl⟩, rfl⟩
  show WP _ _ _ _ _ _ _ (Blk cb [.int .u32 ((crcWrite 0 keyN))] 227 :: Blk nb (byt keyN ++ nsp) 5 :: Blk b1 [.pointer none, .int .i64 0, .int .i64 0, .map none] 148 :: F)
  refine WP.nil ?_
  refine Out.next ?_
  refine WPc.seq ?_
  refine WPc.region ?_
  refine WP.val rfl rfl rfl (Val.move rfl rfl) ?_
  refine WP.val rfl rfl rfl (Val.move rfl rfl) ?_
  refine WP.val rfl rfl rfl (Val.move rfl rfl) ?_
  refine WP.val rfl rfl rfl (Val.move rfl rfl) ?_
  refine WP.val rfl rfl rfl (Val.mk (cs := [.pointer (some ⟨cb, 0, none⟩), .int .i64 (c), .int .i64 (r), .map (some mb)]) rfl rfl (fun _ => by kernel_rfl)) ?_
  refine WP.perm pl2 ?_
  refine WP.eff0 rfl rfl (Eff.storeAgg (cs := [.pointer (some ⟨cb, 0, none⟩), .int .i64 (c), .int .i64 (r), .map (some mb)]) (C' := [.pointer (some ⟨cb, 0, none⟩), .int .i64 (c), .int .i64 (r), .map (some mb)]) rfl Ty.ag148 rfl rfl rfl rfl (by simp) rfl) ?_
  rintro _ _ rfl
  refine WP.nil ?_
  refine Out.next ?_
  refine WPc.ret ?_
  refine Out.perm pl2 ?_
  refine Out.drop ?_
  exact Out.retRun (L' := [Blk cb [.int .u32 (crcWrite 0 keyN)] 227]) (results_cell (cs := [.pointer (some ⟨cb, 0, none⟩), .int .i64 (c), .int .i64 (r), .map (some mb)]) Try.results65 Ty.ag148 rfl rfl (fun w h => h.range 0 rfl rfl)) ⟨cb, rfl, rfl⟩ (fun w h => h.drop)

end Go.Proofs.Ythmkdioafjmclaa.Hn
